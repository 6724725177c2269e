
import JvmDerived
import JvmDerived.Pilot.@@N@@Statement
import JvmDerived.Pilot.@@N@@Code
set_option linter.unusedVariables false
set_option linter.unusedSimpArgs false
namespace Jvm.Pilot.@@N@@
open Jvm Jvm.ClassFile Sem Op Lib Jvm.Free Jvm.Stand Jvm.LawKit Jvm.RoadKit Bundle Jvm.Pilot.@@N@@.Jvm.D
section OwnKit
variable {p : Program} {l : Launch} {e : Env} {R : Room} {s : State} {m : MethodId} {args : Array Value} {below : List Frame} {meth : Method} {c : Code} {T : State} {locs : List Loc} {cells slots : Nat} {Z : State} {a0 : Array Value} {h : Heap}
/-- from S the body comes to its end, and P holds of it -/
def Gd (tb : Tables) (e : Env) (below : List Frame) (P : Outcome → State → Prop) (S : State) : Prop := ∃ s₂ o, Steps tb e below S s₂ ∧ s₂.status = .running ∧ Ended s₂ below o ∧ P o s₂
theorem Gd.go {tb : Tables} {e : Env} {below : List Frame} {P : Outcome → State → Prop} {S S' : State} (h : ∀ t, Steps tb e below S' t → Steps tb e below S t) (k : Gd tb e below P S') : Gd tb e below P S := by
  obtain ⟨s₂, o, h1, h2⟩ := k
  exact ⟨s₂, o, h _ h1, h2⟩
theorem Gd.viaA {α : Type} {A : α → Prop} {tb : Tables} {e : Env} {below : List Frame} {P : Outcome → State → Prop} {S : State} {S' : α → State} (h : (∀ z, A z → Gd tb e below P (S' z)) → Gd tb e below P S) (k : ∀ z, A z → Gd tb e below P (S' z)) : Gd tb e below P S := h k
/-- a body's contract: called with these arguments over this heap it returns, Q holds, and so many cells and slots at most are new -/
def Con (l : Launch) (Z : State) (y : MethodName) (bytes : ByteArray) (maxL : Nat) (ret : Option FieldType) (ws : List Jvm.Cond) (rm : Room) (kc ks : Nat) (as' : Array Value) (h : Heap) (Q : Option Value → Heap → List Loc → Prop) : Prop :=
  MetFree l y (head1 (Jvm.Cond.code y bytes maxL ret :: ws) rm) (fun a U => a = as' ∧ Z.Warmed39 U.vm ∧ U.heap = h) (fun _ _ _ _ _ => True) (fun _ U o U' => ∃ v L, o = .returned v ∧ Q v U'.heap L ∧ FrameEnd U o U' L kc ks)
/-- what a body's walk owes -/
abbrev Owes (s : State) (kc ks : Nat) (Q : Option Value → Heap → List Loc → Prop) : Outcome → State → Prop := fun o U' => ∃ v L, o = .returned v ∧ Q v U'.heap L ∧ FrameEnd s o U' L kc ks
theorem Con.of {y : MethodName} {bytes : ByteArray} {maxL : Nat} {ret : Option FieldType} {ws : List Jvm.Cond} {rm : Room} {kc ks : Nat} {as' : Array Value} {Q : Option Value → Heap → List Loc → Prop} (hpn : plainFor y = true)
    (body : ∀ (p : Program) (e : Env) (s : State) (m : MethodId) (below : List Frame) (meth : Method) (c : Code) (s₁ : State), p.tables.exec = Jvm.exec → c.code = bytes → c.maxLocals = maxL → s.vm.findClass y.cls = some m.cls → meth.name = y.name → meth.sig.returnType = ret → meth.locks = false → Z.Warmed39 s.vm →
      Stand p l e rm s m as' below meth c s₁ [] 0 0 → s₁.heap = h → Gd p.tables e below (Owes s kc ks Q) (s₁.setTop (entryFrame m as' maxL))) : Con l Z y bytes maxL ret ws rm kc ks as' h Q := by
  refine MetFree.of_bodySF hpn hisR ?_
  intro p e s m args below meth c s₁ Bd hml0 hP hK
  obtain ⟨rfl, hZ, hh⟩ := hP
  exact body p e s m below meth c s₁ Bd.exec Bd.bytes hml0 (findClass_of_methodNamed Bd.named) (name_of_methodNamed Bd.named Bd.method).1 Bd.returns Bd.notSynchronized hZ (Stand.of_body Bd) (by rw [← hh, Bd.state]; rfl)
theorem own_retI (X : Stand p l e R s m args below meth c T locs cells slots) (hx : p.tables.exec = Jvm.exec) {pc : Nat} {Ls : Array Slot} {z : Int32} {rest : List Value} (hret : meth.sig.returnType = some .int) (hlk : meth.locks = false) (hd : decode c.code pc = .ok (.ireturn, 1)) {Q : Option Value → Heap → List Loc → Prop} {kc ks : Nat} (hq : Q (some (.int z)) T.heap locs) (hc : cells ≤ kc) (hs : slots ≤ ks) :
    Gd p.tables e below (Owes s kc ks Q) (T.setTop (mkF m pc Ls (.int z :: rest))) := by
  obtain ⟨fs, hr, hrun, hended, hW, hsame⟩ := X.leave (v := some (.int z)) (fun h => by rw [hret] at h; cases h) hlk
  have hm' : T.vm.method? m = some meth := X.method'
  have hn : narrow .int (.int z) = .int z := rfl
  refine ⟨_, _, ?_, hrun, hended, _, _, rfl, hq, ⟨_, rfl⟩, hW, hsame.mono hc hs⟩
  show Steps p.tables e below (T.setTop { method := m, pc := pc, locals := Ls, stack := _ :: rest, locked := none }) _
  jvm_step X.here [X.here.top, hx, hd, hm', hret, hn]
  first | (intro acts; rw [hr _ acts rfl rfl rfl]) | rw [hr _ _ rfl rfl rfl]
  exact Steps.refl _
theorem own_retN (X : Stand p l e R s m args below meth c T locs cells slots) (hx : p.tables.exec = Jvm.exec) {pc : Nat} {Ls : Array Slot} {z : Int32} {rest : List Value} {t : FieldType} (hret : meth.sig.returnType = some t) (hlk : meth.locks = false) (ht : t = .boolean ∨ t = .byte ∨ t = .char ∨ t = .short) (hd : decode c.code pc = .ok (.ireturn, 1)) {Q : Option Value → Heap → List Loc → Prop} {kc ks : Nat} (hq : Q (some (.int (nar t z))) T.heap locs) (hc : cells ≤ kc) (hs : slots ≤ ks) :
    Gd p.tables e below (Owes s kc ks Q) (T.setTop (mkF m pc Ls (.int z :: rest))) := by
  obtain ⟨fs, hr, hrun, hended, hW, hsame⟩ := X.leave (v := some (.int (nar t z))) (fun h => by rw [hret] at h; cases h) hlk
  exact ⟨_, _, retN X hx hret ht hd hr, hrun, hended, _, _, rfl, hq, ⟨_, rfl⟩, hW, hsame.mono hc hs⟩
theorem own_retV (X : Stand p l e R s m args below meth c T locs cells slots) (hx : p.tables.exec = Jvm.exec) {pc : Nat} {Ls : Array Slot} (hret : meth.sig.returnType = none) (hlk : meth.locks = false) (hd : decode c.code pc = .ok (.return_, 1)) {Q : Option Value → Heap → List Loc → Prop} {kc ks : Nat} (hq : Q none T.heap locs) (hc : cells ≤ kc) (hs : slots ≤ ks) :
    Gd p.tables e below (Owes s kc ks Q) (T.setTop (mkF m pc Ls [])) := by
  obtain ⟨fs, hr, hrun, hended, hW, hsame⟩ := X.leave (v := none) (fun _ => rfl) hlk
  exact ⟨_, _, X.returnOut hx hret hd hr, hrun, hended, _, _, rfl, hq, ⟨_, rfl⟩, hW, hsame.mono hc hs⟩
theorem own_retL (X : Stand p l e R s m args below meth c T locs cells slots) (hx : p.tables.exec = Jvm.exec) {pc : Nat} {Ls : Array Slot} {z : Int64} {rest : List Value} (hret : meth.sig.returnType = some .long) (hlk : meth.locks = false) (hd : decode c.code pc = .ok (.lreturn, 1)) {Q : Option Value → Heap → List Loc → Prop} {kc ks : Nat} (hq : Q (some (.long z)) T.heap locs) (hc : cells ≤ kc) (hs : slots ≤ ks) :
    Gd p.tables e below (Owes s kc ks Q) (T.setTop (mkF m pc Ls (.long z :: rest))) := by
  obtain ⟨fs, hr, hrun, hended, hW, hsame⟩ := X.leave (v := some (.long z)) (fun h => by rw [hret] at h; cases h) hlk
  have hm' : T.vm.method? m = some meth := X.method'
  refine ⟨_, _, ?_, hrun, hended, _, _, rfl, hq, ⟨_, rfl⟩, hW, hsame.mono hc hs⟩
  show Steps p.tables e below (T.setTop { method := m, pc := pc, locals := Ls, stack := _ :: rest, locked := none }) _
  jvm_step X.here [X.here.top, hx, hd, hm', hret, narrow]
  first | (intro acts; rw [hr _ acts rfl rfl rfl]) | rw [hr _ _ rfl rfl rfl]
  exact Steps.refl _
/-- a static call by its contract -/
theorem own_callS (X : Stand p l e R s m args below meth c T locs cells slots) (hx : p.tables.exec = Jvm.exec) (hZ : Z.Warmed39 s.vm) {own : String} {index : Nat} {y : MethodName} {bytes : ByteArray} {maxL : Nat} {ret : Option FieldType} (hown : s.vm.findClass own = some m.cls)
    (w1 : (Jvm.Cond.methodLink own index y).before a0 Z = true) (w2 : (Jvm.Cond.static y).before a0 Z = true) (w3 : (Jvm.Cond.initialized y.cls).before a0 Z = true) (w4 : (Jvm.Cond.code y bytes maxL ret).before a0 Z = true) (hy : y.cls ≠ "java/lang/invoke/MethodHandle" ∧ y.cls ≠ "java/lang/invoke/VarHandle")
    {rm : Room} {as' : Array Value} {Q : Option Value → Heap → List Loc → Prop} {W kc ks : Nat} (hM : Con l Z y bytes maxL ret [] rm kc ks as' h Q) (hkc : rm.cells = kc) (hks : rm.slots = ks) (eT : T.heap = h) (hf : rm.frames + 1 ≤ R.frames) (hl : W + (maxL + 11) + rm.locals ≤ R.locals)
    {g : JFrame} (hg : g.method = m) (hsize : g.locals.size = c.maxLocals) {argsL rest : List Value} (hlen : ∀ sig, parseMethodDescriptor y.desc = some sig → argsL.length = sig.parameters.length) (hstack : g.stack = argsL.reverse ++ rest) (hW : 2 * g.monitorRoom + (rest.map fun v => v.category).sum ≤ W)
    (hdg : decode c.code g.pc = .ok (.invokestatic index, 3)) (has : argsL.toArray = as') (hc : cells + kc ≤ R.cells) (hs : slots + ks ≤ R.slots) :
    ∃ v T' L, Stand p l e R s m args below meth c T' (locs ++ L) (cells + kc) (slots + ks) ∧ Q v T'.heap L ∧ ∀ target, Steps p.tables e below (T'.setTop { g with pc := g.pc + 3, stack := v.toList ++ rest }) target → Steps p.tables e below (T.setTop g) target := by
  subst hkc hks
  obtain ⟨v, vm₁, ⟨T', L', c', s'⟩, -, X', ⟨L, hq, l1, l2, l3⟩, st⟩ := Jvm.LawKit.callS X hx (y := y) hown (mvT hZ w1) (mvT hZ w2) (mvT hZ w3) (mvT hZ w4) hy (backOf (W := W) hM hZ w4 w3 hf hl) hg hsize (argsL := argsL) (rest := rest) hlen hstack hW hdg (fun _ _ => ⟨has, eT, hc, hs⟩)
  dsimp only [Pt.U, Pt.locs, Pt.cells, Pt.slots] at X' l1 l2 l3 st hq
  subst l1 l2 l3
  exact ⟨v, T', L, X', hq, st⟩
/-- a static call that writes and makes nothing -/
theorem own_callSP (X : Stand p l e R s m args below meth c T locs cells slots) (hx : p.tables.exec = Jvm.exec) (hZ : Z.Warmed39 s.vm) {own : String} {index : Nat} {y : MethodName} {bytes : ByteArray} {maxL : Nat} {ret : Option FieldType} (hown : s.vm.findClass own = some m.cls)
    (w1 : (Jvm.Cond.methodLink own index y).before a0 Z = true) (w2 : (Jvm.Cond.static y).before a0 Z = true) (w3 : (Jvm.Cond.initialized y.cls).before a0 Z = true) (w4 : (Jvm.Cond.code y bytes maxL ret).before a0 Z = true) (hy : y.cls ≠ "java/lang/invoke/MethodHandle" ∧ y.cls ≠ "java/lang/invoke/VarHandle")
    {rm : Room} {as' : Array Value} {v : Option Value} {W : Nat} (hM : Con l Z y bytes maxL ret [] rm 0 0 as' h (fun v' h' L => v' = v ∧ h' = h ∧ L = [])) (hkc : rm.cells = 0) (hks : rm.slots = 0) (eT : T.heap = h) (hf : rm.frames + 1 ≤ R.frames) (hl : W + (maxL + 11) + rm.locals ≤ R.locals)
    {g : JFrame} (hg : g.method = m) (hsize : g.locals.size = c.maxLocals) {argsL rest : List Value} (hlen : ∀ sig, parseMethodDescriptor y.desc = some sig → argsL.length = sig.parameters.length) (hstack : g.stack = argsL.reverse ++ rest) (hW : 2 * g.monitorRoom + (rest.map fun v => v.category).sum ≤ W)
    (hdg : decode c.code g.pc = .ok (.invokestatic index, 3)) (has : argsL.toArray = as') (hc : cells ≤ R.cells := by decide) (hs : slots ≤ R.slots := by decide) :
    ∃ T', Stand p l e R s m args below meth c T' locs cells slots ∧ T'.heap = h ∧ ∀ target, Steps p.tables e below (T'.setTop { g with pc := g.pc + 3, stack := v.toList ++ rest }) target → Steps p.tables e below (T.setTop g) target := by
  obtain ⟨v', T', L, X', ⟨e1, e2, e3⟩, st⟩ := own_callS X hx hZ hown w1 w2 w3 w4 hy hM hkc hks eT hf hl hg hsize hlen hstack hW hdg has hc hs
  subst e1 e3
  rw [List.append_nil] at X'
  exact ⟨T', X', e2, st⟩
/-- an instance method by its contract, chosen by the receiver's class -/
theorem own_callV (X : Stand p l e R s m args below meth c T locs cells slots) (hx : p.tables.exec = Jvm.exec) (hZ : Z.Warmed39 s.vm) {own C : String} {index : Nat} {y : MethodName} {bytes : ByteArray} {maxL : Nat} {ret : Option FieldType} (hown : s.vm.findClass own = some m.cls)
    (w1 : (Jvm.Cond.methodLink own index y).before a0 Z = true) (w2 : (Jvm.Cond.declares y).before a0 Z = true) (w3 : (Jvm.Cond.selects C y y).before a0 Z = true) (w4 : (Jvm.Cond.instanceMethod y).before a0 Z = true) (w5 : (Jvm.Cond.initialized y.cls).before a0 Z = true) (w6 : (Jvm.Cond.code y bytes maxL ret).before a0 Z = true) (hy : y.cls ≠ "java/lang/invoke/MethodHandle" ∧ y.cls ≠ "java/lang/invoke/VarHandle")
    {b : Addr} (E : Exa Z h b C) {rm : Room} {as' : Array Value} {Q : Option Value → Heap → List Loc → Prop} {W kc ks : Nat} (hM : Con l Z y bytes maxL ret [] rm kc ks as' h Q) (hkc : rm.cells = kc) (hks : rm.slots = ks) (eT : T.heap = h) (hf : rm.frames + 1 ≤ R.frames) (hl : W + (maxL + 11) + rm.locals ≤ R.locals)
    {g : JFrame} (hg : g.method = m) (hsize : g.locals.size = c.maxLocals) {argsL rest : List Value} (hlen : ∀ sig, parseMethodDescriptor y.desc = some sig → argsL.length = sig.parameters.length) (hstack : g.stack = argsL.reverse ++ .ref b :: rest) (hW : 2 * g.monitorRoom + (rest.map fun v => v.category).sum ≤ W)
    (hdg : decode c.code g.pc = .ok (.invokevirtual index, 3)) (has : (.ref b :: argsL).toArray = as') (hc : cells + kc ≤ R.cells) (hs : slots + ks ≤ R.slots) :
    ∃ v T' L, Stand p l e R s m args below meth c T' (locs ++ L) (cells + kc) (slots + ks) ∧ Q v T'.heap L ∧ ∀ target, Steps p.tables e below (T'.setTop { g with pc := g.pc + 3, stack := v.toList ++ rest }) target → Steps p.tables e below (T.setTop g) target := by
  subst hkc hks
  obtain ⟨cq, kq, qa, qb, qc⟩ := isOf hZ eT E
  obtain ⟨v, vm₁, ⟨T', L', c', s'⟩, -, X', ⟨L, hq, l1, l2, l3⟩, st⟩ := X.virtualBack hx (y := y) (z := y) hown (mvT hZ w1) (mvT hZ w2) (notFace_of_selects (args := #[]) (mvT hZ w3)) (mvT hZ w3) (mvT hZ w4) hy (backOf (W := W) hM hZ w6 w5 hf hl) qa qc hg hsize (Steps.refl _) (argsL := argsL) (rest := rest) hlen hstack hW hdg (fun _ _ => ⟨has, eT, hc, hs⟩)
  dsimp only [Pt.U, Pt.locs, Pt.cells, Pt.slots] at X' l1 l2 l3 st hq
  subst l1 l2 l3
  exact ⟨v, T', L, X', hq, fun _ k => st.trans k⟩
/-- an instance method that writes and makes nothing -/
theorem own_callVP (X : Stand p l e R s m args below meth c T locs cells slots) (hx : p.tables.exec = Jvm.exec) (hZ : Z.Warmed39 s.vm) {own C : String} {index : Nat} {y : MethodName} {bytes : ByteArray} {maxL : Nat} {ret : Option FieldType} (hown : s.vm.findClass own = some m.cls)
    (w1 : (Jvm.Cond.methodLink own index y).before a0 Z = true) (w2 : (Jvm.Cond.declares y).before a0 Z = true) (w3 : (Jvm.Cond.selects C y y).before a0 Z = true) (w4 : (Jvm.Cond.instanceMethod y).before a0 Z = true) (w5 : (Jvm.Cond.initialized y.cls).before a0 Z = true) (w6 : (Jvm.Cond.code y bytes maxL ret).before a0 Z = true) (hy : y.cls ≠ "java/lang/invoke/MethodHandle" ∧ y.cls ≠ "java/lang/invoke/VarHandle")
    {b : Addr} (E : Exa Z h b C) {rm : Room} {as' : Array Value} {v : Option Value} {W : Nat} (hM : Con l Z y bytes maxL ret [] rm 0 0 as' h (fun v' h' L => v' = v ∧ h' = h ∧ L = [])) (hkc : rm.cells = 0) (hks : rm.slots = 0) (eT : T.heap = h) (hf : rm.frames + 1 ≤ R.frames) (hl : W + (maxL + 11) + rm.locals ≤ R.locals)
    {g : JFrame} (hg : g.method = m) (hsize : g.locals.size = c.maxLocals) {argsL rest : List Value} (hlen : ∀ sig, parseMethodDescriptor y.desc = some sig → argsL.length = sig.parameters.length) (hstack : g.stack = argsL.reverse ++ .ref b :: rest) (hW : 2 * g.monitorRoom + (rest.map fun v => v.category).sum ≤ W)
    (hdg : decode c.code g.pc = .ok (.invokevirtual index, 3)) (has : (.ref b :: argsL).toArray = as') (hc : cells ≤ R.cells := by decide) (hs : slots ≤ R.slots := by decide) :
    ∃ T', Stand p l e R s m args below meth c T' locs cells slots ∧ T'.heap = h ∧ ∀ target, Steps p.tables e below (T'.setTop { g with pc := g.pc + 3, stack := v.toList ++ rest }) target → Steps p.tables e below (T.setTop g) target := by
  obtain ⟨v', T', L, X', ⟨e1, e2, e3⟩, st⟩ := own_callV X hx hZ hown w1 w2 w3 w4 w5 w6 hy E hM hkc hks eT hf hl hg hsize hlen hstack hW hdg has hc hs
  subst e1 e3
  rw [List.append_nil] at X'
  exact ⟨T', X', e2, st⟩
/-- a constructor by its contract -/
theorem own_callI (X : Stand p l e R s m args below meth c T locs cells slots) (hx : p.tables.exec = Jvm.exec) (hZ : Z.Warmed39 s.vm) {own : String} {index : Nat} {y : MethodName} {bytes : ByteArray} {maxL : Nat} (hy1 : y.name = "<init>") (hown : s.vm.findClass own = some m.cls)
    (w1 : (Jvm.Cond.methodLink own index y).before a0 Z = true) (w4 : (Jvm.Cond.instanceMethod y).before a0 Z = true) (w5 : (Jvm.Cond.initialized y.cls).before a0 Z = true) (w6 : (Jvm.Cond.code y bytes maxL none).before a0 Z = true) (hy : y.cls ≠ "java/lang/invoke/MethodHandle" ∧ y.cls ≠ "java/lang/invoke/VarHandle")
    {b : Addr} {rm : Room} {as' : Array Value} {Q : Option Value → Heap → List Loc → Prop} {W kc ks : Nat} (hM : Con l Z y bytes maxL none [] rm kc ks as' h Q) (hkc : rm.cells = kc) (hks : rm.slots = ks) (eT : T.heap = h) (hf : rm.frames + 1 ≤ R.frames) (hl : W + (maxL + 11) + rm.locals ≤ R.locals)
    {g : JFrame} (hg : g.method = m) (hsize : g.locals.size = c.maxLocals) {argsL rest : List Value} (hlen : ∀ sig, parseMethodDescriptor y.desc = some sig → argsL.length = sig.parameters.length) (hstack : g.stack = argsL.reverse ++ .ref b :: rest) (hW : 2 * g.monitorRoom + (rest.map fun v => v.category).sum ≤ W)
    (hdg : decode c.code g.pc = .ok (.invokespecial index, 3)) (has : (.ref b :: argsL).toArray = as') (hc : cells + kc ≤ R.cells) (hs : slots + ks ≤ R.slots) :
    ∃ v T' L, Stand p l e R s m args below meth c T' (locs ++ L) (cells + kc) (slots + ks) ∧ Q v T'.heap L ∧ ∀ target, Steps p.tables e below (T'.setTop { g with pc := g.pc + 3, stack := v.toList ++ rest }) target → Steps p.tables e below (T.setTop g) target := by
  subst hkc hks
  obtain ⟨v, vm₁, ⟨T', L', c', s'⟩, -, X', ⟨L, hq, l1, l2, l3⟩, st⟩ := X.specialBack hx (y := y) hy1 hown (mvT hZ w1) (mvT hZ w4) (mvT hZ w6) hy (backOf (W := W) hM hZ w6 w5 hf hl) hg hsize (Steps.refl _) (a := b) (argsL := argsL) (rest := rest) hlen hstack hW hdg (fun _ _ => ⟨has, eT, hc, hs⟩)
  dsimp only [Pt.U, Pt.locs, Pt.cells, Pt.slots] at X' l1 l2 l3 st hq
  subst l1 l2 l3
  exact ⟨v, T', L, X', hq, fun _ k => st.trans k⟩
/-- an array as a function of its places -/
def ArF (Z : State) (h : Heap) (a : Addr) (ty : FieldType) (n : Nat) (f : Nat → Value) : Prop := ∃ c : Cell, Arr Z h a c ty ∧ c.slots.size = n ∧ n < 2 ^ 31 ∧ ∀ i, i < n → c.slots[i]? = some (f i)
def upd (f : Nat → Value) (j : Nat) (v : Value) : Nat → Value := fun i => if i = j then v else f i
theorem upd_at (f : Nat → Value) (j : Nat) (v : Value) : upd f j v j = v := if_pos rfl
theorem upd_ne (f : Nat → Value) {i j : Nat} (v : Value) (q : ¬ i = j) : upd f j v i = f i := if_neg q
theorem ArF.lt {h : Heap} {a : Addr} {ty : FieldType} {n : Nat} {f : Nat → Value} (F : ArF Z h a ty n f) : a < h.size := by obtain ⟨c, A, -⟩ := F; exact A.lt
theorem ArF.ext {h h' : Heap} {a : Addr} {ty : FieldType} {n : Nat} {f : Nat → Value} (F : ArF Z h a ty n f) (E : Ext h h') : ArF Z h' a ty n f := by obtain ⟨c, A, r⟩ := F; exact ⟨c, A.ext E, r⟩
theorem ArF.other {h h' : Heap} {a b : Addr} {ty : FieldType} {n : Nat} {f : Nat → Value} {sl : Nat} {v : Value} (F : ArF Z h b ty n f) (W : Wr h h' a sl v) (q : b ≠ a) : ArF Z h' b ty n f := by obtain ⟨c, A, r⟩ := F; exact ⟨c, A.other W q, r⟩
theorem ArF.keep {h h' : Heap} {a : Addr} {ty : FieldType} {n : Nat} {f : Nat → Value} {ws : List Addr} (F : ArF Z h a ty n f) (K : Keep h h' ws) (q : a ∉ ws) : ArF Z h' a ty n f := by obtain ⟨c, A, r⟩ := F; exact ⟨c, ⟨K.2.1 a c A.1 q, A.2⟩, r⟩
theorem ArF.set {h h' : Heap} {a : Addr} {ty : FieldType} {n : Nat} {f : Nat → Value} {j : Nat} {v : Value} (F : ArF Z h a ty n f) (W : Wr h h' a j v) : ArF Z h' a ty n (upd f j v) := by
  obtain ⟨c, A, r1, r2, r3⟩ := F
  refine ⟨_, A.same W, by rw [sz_set]; exact r1, r2, fun i hi => ?_⟩
  show (c.slots.setIfInBounds j v)[i]? = _
  rw [Array.getElem?_setIfInBounds]
  by_cases q : j = i
  · subst q; rw [if_pos rfl, if_pos (by omega), upd_at]
  · rw [if_neg q, upd_ne _ _ (fun w => q w.symm)]; exact r3 i hi
theorem ArF.congr {h : Heap} {a : Addr} {ty : FieldType} {n : Nat} {f g : Nat → Value} (F : ArF Z h a ty n f) (q : ∀ i, i < n → f i = g i) : ArF Z h a ty n g := by
  obtain ⟨c, A, r1, r2, r3⟩ := F
  exact ⟨c, A, r1, r2, fun i hi => by rw [← q i hi]; exact r3 i hi⟩
theorem own_ofN {n : Nat} (h : n < 2 ^ 31) : (Int32.ofNat n).toInt = n := Int32.toInt_ofNat_small h
theorem own_in {c : Cell} {n : Nat} {j : Int32} (S : c.slots.size = n) (h1 : 0 ≤ j.toInt) (h2 : j.toInt < n) : ¬ (j < 0 ∨ c.slots.size ≤ j.toNatClampNeg) := by
  have e : (j.toNatClampNeg : Int) = j.toInt := Int.toNat_of_nonneg h1
  rw [Int32.lt_iff_toInt_lt]
  have : (0 : Int32).toInt = 0 := rfl
  omega
theorem own_new {h h' : Heap} {k : ClassId} {ty : FieldType} {z : Int32} {a : Addr} (A : Arr Z h' a (newA k ty z) ty) (q : ¬ z < 0) : ArF Z h' a ty z.toNatClampNeg (fun _ => defaultValue ty) :=
  ⟨_, A, sz_new _ _ _, (back32 q).2, fun i hi => by simp [newA, hi]⟩
theorem own_ldI (X : Stand p l e R s m args below meth c T locs cells slots) (hx : p.tables.exec = Jvm.exec) (hZ : Z.Warmed39 s.vm) (eT : T.heap = h) {a : Addr} {n : Nat} {f : Nat → Value} (A : ArF Z h a .int n f) {j : Int32} (h1 : 0 ≤ j.toInt) (h2 : j.toInt < n) {v : Value} (hv : f j.toNatClampNeg = v)
    {g : JFrame} (hg : g.method = m) {rest : List Value} (hs : g.stack = .int j :: .ref a :: rest) (hd : decode c.code g.pc = .ok (.iaload, 1)) (target : State) (k : Steps p.tables e below (T.setTop { g with pc := g.pc + 1, stack := v :: rest }) target) : Steps p.tables e below (T.setTop g) target := by
  obtain ⟨cl, Ar, S, -, H⟩ := A
  exact X.iaload hx (j := j) (v := v) (by rw [eT]; exact Ar.1) (State.isArrayOf_alike hZ.alike Ar.2.1) Ar.2.2 (own_in S h1 h2) (by have e := Int.toNat_of_nonneg h1; rw [← hv]; exact H _ (by show j.toInt.toNat < n; omega)) hg hs hd _ k
theorem own_ldJ (X : Stand p l e R s m args below meth c T locs cells slots) (hx : p.tables.exec = Jvm.exec) (hZ : Z.Warmed39 s.vm) (eT : T.heap = h) {a : Addr} {n : Nat} {f : Nat → Value} (A : ArF Z h a .long n f) {j : Int32} (h1 : 0 ≤ j.toInt) (h2 : j.toInt < n) {v : Value} (hv : f j.toNatClampNeg = v)
    {g : JFrame} (hg : g.method = m) {rest : List Value} (hs : g.stack = .int j :: .ref a :: rest) (hd : decode c.code g.pc = .ok (.laload, 1)) (target : State) (k : Steps p.tables e below (T.setTop { g with pc := g.pc + 1, stack := v :: rest }) target) : Steps p.tables e below (T.setTop g) target := by
  obtain ⟨cl, Ar, S, -, H⟩ := A
  exact X.laload hx (j := j) (v := v) (by rw [eT]; exact Ar.1) (State.isArrayOf_alike hZ.alike Ar.2.1) Ar.2.2 (own_in S h1 h2) (by have e := Int.toNat_of_nonneg h1; rw [← hv]; exact H _ (by show j.toInt.toNat < n; omega)) hg hs hd _ k
theorem own_len (X : Stand p l e R s m args below meth c T locs cells slots) (hx : p.tables.exec = Jvm.exec) (hZ : Z.Warmed39 s.vm) (eT : T.heap = h) {a : Addr} {ty : FieldType} {n : Nat} {f : Nat → Value} (A : ArF Z h a ty n f) {z : Int32} (hz : Int32.ofNat n = z)
    {g : JFrame} (hg : g.method = m) {rest : List Value} (hs : g.stack = .ref a :: rest) (hd : decode c.code g.pc = .ok (.arraylength, 1)) (target : State) (k : Steps p.tables e below (T.setTop { g with pc := g.pc + 1, stack := .int z :: rest }) target) : Steps p.tables e below (T.setTop g) target := by
  obtain ⟨cl, Ar, S, -, H⟩ := A
  refine X.arraylength hx (by rw [eT]; exact Ar.1) (State.isArrayOf_alike hZ.alike Ar.2.1) hg hs hd _ ?_
  rw [S]; rw [← hz] at k; exact k
theorem own_stI (X : Stand p l e R s m args below meth c T locs cells slots) (hx : p.tables.exec = Jvm.exec) (hZ : Z.Warmed39 s.vm) (eT : T.heap = h) {a : Addr} {n : Nat} {f : Nat → Value} (A : ArF Z h a .int n f) {j x : Int32} (h1 : 0 ≤ j.toInt) (h2 : j.toInt < n)
    {g : JFrame} (hg : g.method = m) {rest : List Value} (hs : g.stack = .int x :: .int j :: .ref a :: rest) (hd : decode c.code g.pc = .ok (.iastore, 1)) :
    ∃ T' h', Stand p l e R s m args below meth c T' (locs ++ [⟨a, j.toNatClampNeg⟩]) cells slots ∧ T'.heap = h' ∧ Wr h h' a j.toNatClampNeg (.int x) ∧ ∀ target, Steps p.tables e below (T'.setTop { g with pc := g.pc + 1, stack := rest }) target → Steps p.tables e below (T.setTop g) target := by
  obtain ⟨cl, Ar, S, -, H⟩ := A
  exact stI X hx hZ eT Ar (own_in S h1 h2) hg hs hd
theorem own_stJ (X : Stand p l e R s m args below meth c T locs cells slots) (hx : p.tables.exec = Jvm.exec) (hZ : Z.Warmed39 s.vm) (eT : T.heap = h) {a : Addr} {n : Nat} {f : Nat → Value} (A : ArF Z h a .long n f) {j : Int32} {x : Int64} (h1 : 0 ≤ j.toInt) (h2 : j.toInt < n)
    {g : JFrame} (hg : g.method = m) {rest : List Value} (hs : g.stack = .long x :: .int j :: .ref a :: rest) (hd : decode c.code g.pc = .ok (.lastore, 1)) :
    ∃ T' h', Stand p l e R s m args below meth c T' (locs ++ [⟨a, j.toNatClampNeg⟩]) cells slots ∧ T'.heap = h' ∧ Wr h h' a j.toNatClampNeg (.long x) ∧ ∀ target, Steps p.tables e below (T'.setTop { g with pc := g.pc + 1, stack := rest }) target → Steps p.tables e below (T.setTop g) target := by
  obtain ⟨cl, Ar, S, -, H⟩ := A
  exact stJ X hx hZ eT Ar (own_in S h1 h2) hg hs hd
end OwnKit
section OwnKit2
variable {p : Program} {l : Launch} {e : Env} {R : Room} {s : State} {m : MethodId} {args : Array Value} {below : List Frame} {meth : Method} {c : Code} {T : State} {locs : List Loc} {cells slots : Nat} {Z : State} {a0 : Array Value} {h : Heap}
/-- getfield whose entry is resolved -/
theorem own_getR (X : Stand p l e R s m args below meth c T locs cells slots) (hx : p.tables.exec = Jvm.exec) (hZ : Z.Warmed39 s.vm) {own O n d : String} {index : Nat} (hown : s.vm.findClass own = some m.cls) (w : (Jvm.Cond.fieldRef own index O n d).before a0 Z = true)
    (eT : T.heap = h) {a : Addr} {v : Value} (F : Fld Z h a O n d v) {g : JFrame} (hg : g.method = m) {rest : List Value} (hs : g.stack = .ref a :: rest) (hd : decode c.code g.pc = .ok (.getfield index, 3)) (target : State)
    (k : Steps p.tables e below (T.setTop { g with pc := g.pc + 3, stack := v :: rest }) target) : Steps p.tables e below (T.setTop g) target := by
  obtain ⟨cell, cf, kk, i, f, h1, h2, h3, h4, -, -, h7⟩ := F
  have hZT : Z.Warmed39 T.vm := wtrans hZ X.warmed
  have wT := Cond.fieldRef_warmed39 hZT w
  have hcur : (Z.setVm T.vm).vm.findClass own = some m.cls := by show T.vm.findClass own = _; rw [X.warmed.alike.findClass]; exact hown
  obtain ⟨c', k', i', f', q1, q2⟩ := Cond.fieldRef_spec (s := Z.setVm T.vm) (cur := m.cls) hcur wT
  obtain ⟨k'', hi, -⟩ := State.fieldFound?_setVm (s := Z) hZT.alike h2
  cases hi.symm.trans q1
  subst hg
  jvm_step X.here [hx, hd, getfield.wp_ready (e := e) (s := T) (f := g) X.here.top q2 h3 hs (by rw [eT]; exact h1) h4 h7]
  exact k
/-- a constructor by its contract, where the call's entry is resolved -/
theorem own_callIR (X : Stand p l e R s m args below meth c T locs cells slots) (hx : p.tables.exec = Jvm.exec) (hZ : Z.Warmed39 s.vm) {own : String} {index : Nat} {y : MethodName} {bytes : ByteArray} {maxL : Nat} (hy1 : y.name = "<init>") (hown : s.vm.findClass own = some m.cls)
    (w1 : (Jvm.Cond.methodRef own index y).before a0 Z = true) (w4 : (Jvm.Cond.instanceMethod y).before a0 Z = true) (w5 : (Jvm.Cond.initialized y.cls).before a0 Z = true) (w6 : (Jvm.Cond.code y bytes maxL none).before a0 Z = true) (hy : y.cls ≠ "java/lang/invoke/MethodHandle" ∧ y.cls ≠ "java/lang/invoke/VarHandle")
    {b : Addr} {rm : Room} {as' : Array Value} {Q : Option Value → Heap → List Loc → Prop} {W kc ks : Nat} (hM : Con l Z y bytes maxL none [] rm kc ks as' h Q) (hkc : rm.cells = kc) (hks : rm.slots = ks) (eT : T.heap = h) (hf : rm.frames + 1 ≤ R.frames) (hl : W + (maxL + 11) + rm.locals ≤ R.locals)
    {g : JFrame} (hg : g.method = m) (hsize : g.locals.size = c.maxLocals) {argsL rest : List Value} (hlen : ∀ sig, parseMethodDescriptor y.desc = some sig → argsL.length = sig.parameters.length) (hstack : g.stack = argsL.reverse ++ .ref b :: rest) (hW : 2 * g.monitorRoom + (rest.map fun v => v.category).sum ≤ W)
    (hdg : decode c.code g.pc = .ok (.invokespecial index, 3)) (has : (.ref b :: argsL).toArray = as') (hc : cells + kc ≤ R.cells) (hs : slots + ks ≤ R.slots) :
    ∃ v T' L, Stand p l e R s m args below meth c T' (locs ++ L) (cells + kc) (slots + ks) ∧ Q v T'.heap L ∧ ∀ target, Steps p.tables e below (T'.setTop { g with pc := g.pc + 3, stack := v.toList ++ rest }) target → Steps p.tables e below (T.setTop g) target := by
  subst hkc hks
  have hinst : (Jvm.Cond.instanceMethod y).before args s = true := mvT hZ w4
  have hcode : (Jvm.Cond.code y bytes maxL none).before args s = true := mvT hZ w6
  obtain ⟨obj, methO, hnO, hmO, hstO, habO⟩ := Cond.instanceMethod_spec hinst
  obtain ⟨methO', cO, hmO', hcO, hbO, hlO, -, hlockO, -, hsigO⟩ := Cond.code_spec hnO hcode
  cases hmO.symm.trans hmO'
  obtain ⟨kO, hkO, hnameO⟩ := className_of_methodNamed hnO
  obtain ⟨hnameMO, hdescO⟩ := name_of_methodNamed hnO hmO
  obtain ⟨objZ, methZ, hnZ, -⟩ := Cond.instanceMethod_spec w4
  have hZT : Z.Warmed39 T.vm := wtrans hZ X.warmed
  have wT := Cond.methodRef_warmed39 hZT hnZ hy w1
  have hcur : (Z.setVm T.vm).vm.findClass own = some m.cls := by show T.vm.findClass own = _; rw [X.warmed.alike.findClass]; exact hown
  obtain ⟨m1, c1, q1, q2, q3, q4⟩ := Cond.methodRef_named e (s := Z.setVm T.vm) (cur := m.cls) hcur wT
  have hnT : T.methodNamed? y = some obj := X.named hnO
  have hnT' : (Z.setVm T.vm).methodNamed? y = some obj := hnT
  have e1 : m1 = obj := by
    have := State.methodFound?_of_named hnT' hy
    rw [q1] at this; exact Option.some.inj this
  subst e1
  have e2 : c1 = m1.cls := Option.some.inj (q3.symm.trans (findClass_of_methodNamed hnT'))
  subst e2
  obtain ⟨kT, hkT, heT⟩ := X.warmed.alike.2.2 _ _ hkO
  have hmT : T.vm.method? m1 = some methO := by rw [X.warmed.alike.method?]; exact hmO
  have hfound : lookupSpecial T.vm m1.cls "<init>" methO.desc = .method m1 := by
    rw [X.warmed.alike.lookupSpecial, hdescO, ← hy1]; exact lookupSpecial_of_named hnO hmO hstO
  have hK := backOf (W := W) (R := R) (p := p) (e := e) (below := below) (args := args) (len := 3) hM hZ w6 w5 hf hl
  obtain ⟨v, ⟨T', L', c', s'⟩, X', ⟨L, hq, l1, l2, l3⟩, st⟩ := hK m meth c ⟨T, locs, cells, slots⟩ { g with stack := rest } (.invokespecial index) m1 (.ref b :: argsL).toArray X hg hsize hdg hW hnT ⟨has, eT, hc, hs⟩
  dsimp only [Pt.U, Pt.locs, Pt.cells, Pt.slots] at X' l1 l2 l3 st hq
  subst l1 l2 l3
  refine ⟨v, T', L, X', hq, fun target k => ?_⟩
  subst hg
  jvm_step X.here [hx, hdg, invokespecial.wp_init (e := e) (s := T) (k := kT) (meth := methO) (m := m1) (a := b) (args := argsL) (rest := rest) (f := g) X.here.top q4 q2 hkT hmT (by rw [hnameMO]; exact hy1) hstO habO hfound (hlen _ hsigO) hstack]
  intro acts
  rw [doInvoke_state]
  exact st.trans k
end OwnKit2
section OwnKit3
variable {p : Program} {l : Launch} {e : Env} {R : Room} {s : State} {m : MethodId} {args : Array Value} {below : List Frame} {meth : Method} {c : Code} {T : State} {locs : List Loc} {cells slots : Nat} {Z : State} {a0 : Array Value} {h : Heap}
/-- a private instance method by invokevirtual; that its class is no interface: by a word of another of its methods -/
theorem own_callP (X : Stand p l e R s m args below meth c T locs cells slots) (hx : p.tables.exec = Jvm.exec) (hZ : Z.Warmed39 s.vm) {own C K : String} {index : Nat} {y y' : MethodName} {bytes : ByteArray} {maxL : Nat} {ret : Option FieldType} (hown : s.vm.findClass own = some m.cls)
    (w1 : (Jvm.Cond.methodLink own index y).before a0 Z = true) (w2 : (Jvm.Cond.selects C y' y').before a0 Z = true) (hc' : y'.cls = y.cls) (w3 : (Jvm.Cond.privateMethod y).before a0 Z = true) (w4 : (Jvm.Cond.instanceMethod y).before a0 Z = true) (w5 : (Jvm.Cond.initialized y.cls).before a0 Z = true) (w6 : (Jvm.Cond.code y bytes maxL ret).before a0 Z = true) (hy : y.cls ≠ "java/lang/invoke/MethodHandle" ∧ y.cls ≠ "java/lang/invoke/VarHandle")
    {b : Addr} (E : Exa Z h b K) {rm : Room} {as' : Array Value} {Q : Option Value → Heap → List Loc → Prop} {W kc ks : Nat} (hM : Con l Z y bytes maxL ret [] rm kc ks as' h Q) (hkc : rm.cells = kc) (hks : rm.slots = ks) (eT : T.heap = h) (hf : rm.frames + 1 ≤ R.frames) (hl : W + (maxL + 11) + rm.locals ≤ R.locals)
    {g : JFrame} (hg : g.method = m) (hsize : g.locals.size = c.maxLocals) {argsL rest : List Value} (hlen : ∀ sig, parseMethodDescriptor y.desc = some sig → argsL.length = sig.parameters.length) (hstack : g.stack = argsL.reverse ++ .ref b :: rest) (hW : 2 * g.monitorRoom + (rest.map fun v => v.category).sum ≤ W)
    (hdg : decode c.code g.pc = .ok (.invokevirtual index, 3)) (has : (.ref b :: argsL).toArray = as') (hc : cells + kc ≤ R.cells) (hs : slots + ks ≤ R.slots) :
    ∃ v T' L, Stand p l e R s m args below meth c T' (locs ++ L) (cells + kc) (slots + ks) ∧ Q v T'.heap L ∧ ∀ target, Steps p.tables e below (T'.setTop { g with pc := g.pc + 3, stack := v.toList ++ rest }) target → Steps p.tables e below (T.setTop g) target := by
  subst hkc hks
  have hinst : (Jvm.Cond.instanceMethod y).before args s = true := mvT hZ w4
  have hpriv := Cond.privateMethod_at (mvP (args := #[]) hZ w3)
  have w2' : (Jvm.Cond.selects C y' y').before args s = true := mvT hZ w2
  obtain ⟨mk, methM, hnamed, hmethM, hstM, habM⟩ := Cond.instanceMethod_spec hinst
  obtain ⟨methM', cM, hmethM', -, -, -, -, -, -, hsigM⟩ := Cond.code_spec hnamed (mvT (args := args) hZ w6)
  cases hmethM.symm.trans hmethM'
  obtain ⟨c2, r2, m2, -, -, q3, -, kP, hkP, hkPi⟩ := Cond.selects_spec w2'
  have h1 := findClass_of_methodNamed hnamed
  have h2 := findClass_of_methodNamed q3
  rw [hc', h1] at h2
  have h2' : mk.cls = m2.cls := Option.some.inj h2
  rw [← h2'] at hkP
  obtain ⟨cell, hcell, hobj⟩ := E.cell
  have hselP : selectMethod e.platform s.vm cell.cls mk = .method mk := selectMethod_private hmethM (hpriv mk methM hnamed hmethM)
  obtain ⟨vm₁, X₁, hstep₁⟩ := X.invokevirtual hx hown (mvT hZ w1) hnamed hmethM hstM hkP hkPi hy (a := b) (cell := cell) (by rw [eT]; exact hcell) hobj hselP hmethM habM hkP hkPi (g := g) hg (argsL := argsL) (rest := rest) (hlen _ hsigM) hstack hdg
  obtain ⟨v, ⟨T', L', c', s'⟩, X', ⟨L, hq, l1, l2, l3⟩, st⟩ := (backOf (W := W) (R := R) (p := p) (e := e) (below := below) (args := args) (len := 3) hM hZ w6 w5 hf hl) m meth c ⟨T.setVm vm₁, locs, cells, slots⟩ { g with stack := rest } (.invokevirtual index) mk (.ref b :: argsL).toArray X₁ hg hsize hdg hW (X₁.named hnamed) ⟨has, eT, hc, hs⟩
  dsimp only [Pt.U, Pt.locs, Pt.cells, Pt.slots] at X' l1 l2 l3 st hq
  subst l1 l2 l3
  exact ⟨v, T', L, X', hq, fun _ k => hstep₁ _ fun acts => by rw [doInvoke_state]; exact st.trans k⟩
end OwnKit3
section OwnKit4
variable {p : Program} {l : Launch} {e : Env} {R : Room} {s : State} {m : MethodId} {args : Array Value} {below : List Frame} {meth : Method} {c : Code} {T : State} {locs : List Loc} {cells slots : Nat} {Z : State} {a0 : Array Value} {h : Heap}
/-- putfield whose entry is resolved, of a field that isn't final -/
theorem own_putR (X : Stand p l e R s m args below meth c T locs cells slots) (hx : p.tables.exec = Jvm.exec) (hZ : Z.Warmed39 s.vm) {own O n d C : String} {index kk : Nat} {ty : FieldType} (hown : s.vm.findClass own = some m.cls) (w : (Jvm.Cond.fieldRef own index O n d).before a0 Z = true)
    (eT : T.heap = h) {a : Addr} {v old : Value} (F : Fld Z h a O n d old) (E : Exa Z h a C) (L : (Jvm.Cond.lays C O n d).before a0 Z = true) (wi : (Jvm.Cond.instantiable C kk).before a0 Z = true)
    (hty : parseFieldDescriptor d = some ty) (hn : narrow ty v = v) (hf : fits ty v = true) {g : JFrame} (hg : g.method = m) {rest : List Value} (hs : g.stack = v :: .ref a :: rest) (hd : decode c.code g.pc = .ok (.putfield index, 3)) :
    ∃ T' h', Stand p l e R s m args below meth c T' (locs ++ [⟨a, Jvm.RoadKit.slotOf Z O n d⟩]) cells slots ∧ T'.heap = h' ∧ Wr h h' a (Jvm.RoadKit.slotOf Z O n d) v ∧ ∀ target, Steps p.tables e below (T'.setTop { g with pc := g.pc + 3, stack := rest }) target → Steps p.tables e below (T.setTop g) target := by
  obtain ⟨cell, cf, k, i, f, h1, h2, h3, h4, h5, -, h7⟩ := F
  obtain ⟨cell', kc, e1, e2, e3, -⟩ := E
  cases h1.symm.trans e1
  obtain ⟨c1, k1, cf1, kf1, i1, f1, a1, a2, a3, -, -, a6, -⟩ := Laid.spec (Or.inl L)
  cases h2.symm.trans a3
  cases e2.symm.trans a1
  obtain ⟨c2, k2, i1, i2, i3, -⟩ := Cond.instantiable_spec wi
  cases e2.symm.trans i1
  cases a2.symm.trans i2
  have ht := (State.fieldFound?_type h2 hty).2
  have hfit : Z.fitsSlot cell.cls cell.vm f.slot v = true := by
    have q : Z.slotType? cell.cls cell.vm f.slot = some ty := by
      simp only [State.slotType?, a2, Option.bind_eq_bind, Option.bind_some, i3]
      cases hq : cell.vm <;> first | (rw [hq] at h5; exact Bool.noConfusion h5) | (rw [a6, ht])
    simp [State.fitsSlot, q, hf]
  have hZT : Z.Warmed39 T.vm := wtrans hZ X.warmed
  have hfit' : T.fitsSlot cell.cls cell.vm f.slot v = true := by rw [← State.fitsSlot_setVm hZT.alike] at hfit; exact hfit
  have hfin : hasFlag f.accessFlags Acc.final = false := by
    obtain ⟨_, _, _, _, _, _, -, -, b3, -, b5, -⟩ := Cond.lays_spec L
    cases h2.symm.trans b3
    exact b5
  have wT := Cond.fieldRef_warmed39 hZT w
  have hcur : (Z.setVm T.vm).vm.findClass own = some m.cls := by show T.vm.findClass own = _; rw [X.warmed.alike.findClass]; exact hown
  obtain ⟨c', k', i', f', q1, q2⟩ := Cond.fieldRef_spec (s := Z.setVm T.vm) (cur := m.cls) hcur wT
  obtain ⟨k'', hi, -⟩ := State.fieldFound?_setVm (s := Z) hZT.alike h2
  cases hi.symm.trans q1
  have hlt := (Array.getElem?_eq_some_iff.mp h7).1
  have es : Jvm.RoadKit.slotOf Z O n d = f.slot := by simp [Jvm.RoadKit.slotOf, h2]
  rw [es]
  obtain ⟨X', st⟩ := X.putfieldReady hx q2 h3 (Or.inl hfin) (by rw [eT]; exact h1) h4 hlt (by rw [ht]; exact hn) hfit' hg hs hd
  exact ⟨_, _, X', rfl, ⟨cell, h1, h5, hlt, by rw [← eT]; rfl⟩, st⟩
end OwnKit4

theorem on {ad : Nat → Addr} (hinj : ∀ i j, i < 11 → j < 11 → i ≠ j → ad i ≠ ad j) (i j : Nat) (h : (decide (i < 11) && decide (j < 11) && decide (i ≠ j)) = true) : ad i ≠ ad j := by
  simp only [Bool.and_eq_true, decide_eq_true_eq] at h
  exact hinj i j h.1.1 h.1.2 h.2
theorem ow {Z : State} {a0 : Array Value} (hw : ∀ d ∈ tables_1, d.before a0 Z = true) (i : Nat) {d : Jvm.Cond} (h : tables_1[i]? = some d) : d.before a0 Z = true := hw d (List.mem_of_getElem? h)
def own_J (x y z : Int64) : Nat → Value := fun i => .long (if i = 0 then x else if i = 1 then y else if i = 2 then z else 0)
theorem own_setJ0 {Z : State} {h : Heap} {a : Addr} {n : Nat} {x y z v : Int64} (F : ArF Z h a .long n (upd (own_J x y z) (0 : Int32).toNatClampNeg (.long v))) : ArF Z h a .long n (own_J v y z) := F.congr fun i _ => by
  unfold upd own_J
  rw [show (0 : Int32).toNatClampNeg = 0 from by decide]
  by_cases q : i = 0
  · subst q; rfl
  · rw [if_neg q]; simp [q]
theorem own_setJ1 {Z : State} {h : Heap} {a : Addr} {n : Nat} {x y z v : Int64} (F : ArF Z h a .long n (upd (own_J x y z) (1 : Int32).toNatClampNeg (.long v))) : ArF Z h a .long n (own_J x v z) := F.congr fun i _ => by
  unfold upd own_J
  rw [show (1 : Int32).toNatClampNeg = 1 from by decide]
  by_cases q : i = 1
  · subst q; rfl
  · rw [if_neg q]; simp [q]
theorem own_setJ2 {Z : State} {h : Heap} {a : Addr} {n : Nat} {x y z v : Int64} (F : ArF Z h a .long n (upd (own_J x y z) (2 : Int32).toNatClampNeg (.long v))) : ArF Z h a .long n (own_J x y v) := F.congr fun i _ => by
  unfold upd own_J
  rw [show (2 : Int32).toNatClampNeg = 2 from by decide]
  by_cases q : i = 2
  · subst q; rfl
  · rw [if_neg q]; simp [q]
def own_I (x y z : Int32) : Nat → Value := fun i => .int (if i = 0 then x else if i = 1 then y else if i = 2 then z else 0)
theorem own_setI0 {Z : State} {h : Heap} {a : Addr} {n : Nat} {x y z v : Int32} (F : ArF Z h a .int n (upd (own_I x y z) (0 : Int32).toNatClampNeg (.int v))) : ArF Z h a .int n (own_I v y z) := F.congr fun i _ => by
  unfold upd own_I
  rw [show (0 : Int32).toNatClampNeg = 0 from by decide]
  by_cases q : i = 0
  · subst q; rfl
  · rw [if_neg q]; simp [q]
theorem own_setI1 {Z : State} {h : Heap} {a : Addr} {n : Nat} {x y z v : Int32} (F : ArF Z h a .int n (upd (own_I x y z) (1 : Int32).toNatClampNeg (.int v))) : ArF Z h a .int n (own_I x v z) := F.congr fun i _ => by
  unfold upd own_I
  rw [show (1 : Int32).toNatClampNeg = 1 from by decide]
  by_cases q : i = 1
  · subst q; rfl
  · rw [if_neg q]; simp [q]
theorem own_setI2 {Z : State} {h : Heap} {a : Addr} {n : Nat} {x y z v : Int32} (F : ArF Z h a .int n (upd (own_I x y z) (2 : Int32).toNatClampNeg (.int v))) : ArF Z h a .int n (own_I x y v) := F.congr fun i _ => by
  unfold upd own_I
  rw [show (2 : Int32).toNatClampNeg = 2 from by decide]
  by_cases q : i = 2
  · subst q; rfl
  · rw [if_neg q]; simp [q]
def own_H (Z : State) (h : Heap) (n0 : Nat) (ad : Nat → Addr) (v_rn : Addr) (v_mg : Addr) (v_ra : Int32) (v_fa : Int32) (v_fk : Int32) (v_an : Int32) (v_at : Int32) (v_nx : Int64) (v_c1 : Int32) (v_c2 : Int32) (v_c3 : Int32) (v_l10 : Int64) (v_l11 : Int64) (v_l12 : Int64) (v_l20 : Int64) (v_l21 : Int64) (v_l22 : Int64) (v_l30 : Int64) (v_l31 : Int64) (v_l32 : Int64) (v_i10 : Int32) (v_i11 : Int32) (v_i12 : Int32) (v_i20 : Int32) (v_i21 : Int32) (v_i22 : Int32) (v_i30 : Int32) (v_i31 : Int32) (v_i32 : Int32) (v_k0 : Int32) (v_k1 : Int32) (v_k2 : Int32) : Prop :=
  (∀ i j, i < 11 → j < 11 → i ≠ j → ad i ≠ ad j) ∧ (∀ i, i < 11 → n0 ≤ ad i) ∧
  Exa Z h (ad 0) "com/example/nearfield/nearfield/job/RankedReads" ∧
  Exa Z h (ad 1) "com/example/nearfield/nearfield/job/RankedReads$Run" ∧
  Exa Z h (ad 2) "com/example/nearfield/nearfield/job/RankedReads$Run" ∧
  Exa Z h (ad 3) "com/example/nearfield/nearfield/job/RankedReads$Run" ∧
  Fld Z h (ad 0) "com/example/nearfield/nearfield/job/RankedReads" "run" "Lcom/example/nearfield/nearfield/job/RankedReads$Run;" (.ref v_rn) ∧
  Fld Z h (ad 0) "com/example/nearfield/nearfield/job/RankedReads" "merged" "Lcom/example/nearfield/nearfield/job/RankedReads$Run;" (.ref v_mg) ∧
  Fld Z h (ad 0) "com/example/nearfield/nearfield/job/RankedReads" "fresh" "Lcom/example/nearfield/nearfield/job/RankedReads$Run;" (.ref (ad 3)) ∧
  Fld Z h (ad 0) "com/example/nearfield/nearfield/job/RankedReads" "serverBits" "I" (.int (2 : Int32)) ∧
  Fld Z h (ad 0) "com/example/nearfield/nearfield/job/RankedReads" "freeBits" "I" (.int (30 : Int32)) ∧
  Fld Z h (ad 0) "com/example/nearfield/nearfield/job/RankedReads" "serverMask" "J" (.long (3 : Int64)) ∧
  Fld Z h (ad 0) "com/example/nearfield/nearfield/job/RankedReads" "mostFree" "J" (.long (1073741823 : Int64)) ∧
  Fld Z h (ad 0) "com/example/nearfield/nearfield/job/RankedReads" "mostSpend" "J" (.long (2147483647 : Int64)) ∧
  Fld Z h (ad 0) "com/example/nearfield/nearfield/job/RankedReads" "runAt" "I" (.int v_ra) ∧
  Fld Z h (ad 0) "com/example/nearfield/nearfield/job/RankedReads" "freshAt" "I" (.int v_fa) ∧
  Fld Z h (ad 0) "com/example/nearfield/nearfield/job/RankedReads" "freshKept" "I" (.int v_fk) ∧
  Fld Z h (ad 0) "com/example/nearfield/nearfield/job/RankedReads" "ranking" "[I" (.ref (ad 10)) ∧
  Fld Z h (ad 0) "com/example/nearfield/nearfield/job/RankedReads" "rankedAnew" "Z" (.int v_an) ∧
  Fld Z h (ad 0) "com/example/nearfield/nearfield/job/RankedReads" "at" "I" (.int v_at) ∧
  Fld Z h (ad 0) "com/example/nearfield/nearfield/job/RankedReads" "next" "J" (.long v_nx) ∧
  Fld Z h (ad 1) "com/example/nearfield/nearfield/job/RankedReads$Run" "rank" "[J" (.ref (ad 4)) ∧
  Fld Z h (ad 1) "com/example/nearfield/nearfield/job/RankedReads$Run" "ranking" "[I" (.ref (ad 7)) ∧
  Fld Z h (ad 1) "com/example/nearfield/nearfield/job/RankedReads$Run" "count" "I" (.int v_c1) ∧
  Fld Z h (ad 2) "com/example/nearfield/nearfield/job/RankedReads$Run" "rank" "[J" (.ref (ad 5)) ∧
  Fld Z h (ad 2) "com/example/nearfield/nearfield/job/RankedReads$Run" "ranking" "[I" (.ref (ad 8)) ∧
  Fld Z h (ad 2) "com/example/nearfield/nearfield/job/RankedReads$Run" "count" "I" (.int v_c2) ∧
  Fld Z h (ad 3) "com/example/nearfield/nearfield/job/RankedReads$Run" "rank" "[J" (.ref (ad 6)) ∧
  Fld Z h (ad 3) "com/example/nearfield/nearfield/job/RankedReads$Run" "ranking" "[I" (.ref (ad 9)) ∧
  Fld Z h (ad 3) "com/example/nearfield/nearfield/job/RankedReads$Run" "count" "I" (.int v_c3) ∧
  ArF Z h (ad 4) .long 16 (own_J v_l10 v_l11 v_l12) ∧
  ArF Z h (ad 5) .long 16 (own_J v_l20 v_l21 v_l22) ∧
  ArF Z h (ad 6) .long 16 (own_J v_l30 v_l31 v_l32) ∧
  ArF Z h (ad 7) .int 16 (own_I v_i10 v_i11 v_i12) ∧
  ArF Z h (ad 8) .int 16 (own_I v_i20 v_i21 v_i22) ∧
  ArF Z h (ad 9) .int 16 (own_I v_i30 v_i31 v_i32) ∧
  ArF Z h (ad 10) .int 3 (own_I v_k0 v_k1 v_k2)
theorem own_pn0 : plainFor (⟨"com/example/nearfield/nearfield/job/RankedReads", "index", "()I"⟩ : MethodName) = true := by first | exact plainFor_of_name (by first | (simp [plainName, overriddenIn, x]; done) | decide +kernel) | decide +kernel
theorem ef_23 (m : MethodId) (q0 : Addr) : entryFrame m #[(.ref q0)] 1 = mkF m 0 #[.val (.ref q0)] [] := by first | (simp [entryFrame, mkF, argsToLocals, Value.category, maxLocals]; done) | rfl
theorem d23_0 : decode prog_98_method_11_code 0 = .ok (.aload_n 0, 1) := by decide +kernel
theorem d23_1 : decode prog_98_method_11_code 1 = .ok (.getfield 110, 3) := by decide +kernel
theorem d23_4 : decode prog_98_method_11_code 4 = .ok (.ireturn, 1) := by decide +kernel
set_option maxRecDepth 65536 in
set_option maxHeartbeats 40000000 in
theorem own_c23 (l : Launch) (Z : State) (a0 : Array Value) (hw : ∀ d ∈ tables_1, d.before a0 Z = true) (h0 : Heap) (n0 : Nat) (ad : Nat → Addr) (v_rn : Addr) (v_mg : Addr) (v_ra : Int32) (v_fa : Int32) (v_fk : Int32) (v_an : Int32) (v_at : Int32) (v_nx : Int64) (v_c1 : Int32) (v_c2 : Int32) (v_c3 : Int32) (v_l10 : Int64) (v_l11 : Int64) (v_l12 : Int64) (v_l20 : Int64) (v_l21 : Int64) (v_l22 : Int64) (v_l30 : Int64) (v_l31 : Int64) (v_l32 : Int64) (v_i10 : Int32) (v_i11 : Int32) (v_i12 : Int32) (v_i20 : Int32) (v_i21 : Int32) (v_i22 : Int32) (v_i30 : Int32) (v_i31 : Int32) (v_i32 : Int32) (v_k0 : Int32) (v_k1 : Int32) (v_k2 : Int32) (H : own_H Z h0 n0 ad v_rn v_mg v_ra v_fa v_fk v_an v_at v_nx v_c1 v_c2 v_c3 v_l10 v_l11 v_l12 v_l20 v_l21 v_l22 v_l30 v_l31 v_l32 v_i10 v_i11 v_i12 v_i20 v_i21 v_i22 v_i30 v_i31 v_i32 v_k0 v_k1 v_k2) :
    Con l Z (⟨"com/example/nearfield/nearfield/job/RankedReads", "index", "()I"⟩ : MethodName) prog_98_method_11_code 1 (some .int) [] ({ frames := 0, cells := 0, slots := 0, locals := 0 } : Room) 0 0 #[(.ref (ad 0))] h0 (fun r h L => r = some (.int v_at) ∧ h = h0 ∧ L = []) := by
  refine Con.of own_pn0 ?_
  intro pg ev s_ m bl mt cd s₁ hx hby hml hown hnm hret hlk hZ X0 e0
  rw [ef_23]
  show Gd _ _ _ _ (s₁.setTop (mkF m 0 #[.val (.ref (ad 0))] []))
  have N0 := Fr.nil n0
  refine Gd.go (fun _ w_k => XS.aloadN X0.here hx rfl (hb hby d23_0) rfl rfl w_k) ?_
  show Gd _ _ _ _ (s₁.setTop (mkF m 1 #[.val (.ref (ad 0))] [(.ref (ad 0))]))
  obtain ⟨T1, X1, e1, st1⟩ := getF X0 hx hZ hown (host := "") (Or.inl (ow hw 124 rfl)) Via.refl e0 H.2.2.2.2.2.2.2.2.2.2.2.2.2.2.2.2.2.2.2.1 (g := (mkF m 1 #[.val (.ref (ad 0))] [(.ref (ad 0))])) rfl rfl (hb hby d23_1)
  refine Gd.go (fun _ w_k => st1 _ w_k) ?_
  show Gd _ _ _ _ (T1.setTop (mkF m 4 #[.val (.ref (ad 0))] [(.int v_at)]))
  refine own_retI X1 hx hret hlk (hb hby d23_4) ?_ (by decide) (by decide)
  exact ⟨rfl, e1, rfl⟩
theorem own_pn1 : plainFor (⟨"com/example/nearfield/nearfield/job/RankedReads", "packedNext", "()J"⟩ : MethodName) = true := by first | exact plainFor_of_name (by first | (simp [plainName, overriddenIn, x]; done) | decide +kernel) | decide +kernel
theorem ef_24 (m : MethodId) (q0 : Addr) : entryFrame m #[(.ref q0)] 1 = mkF m 0 #[.val (.ref q0)] [] := by first | (simp [entryFrame, mkF, argsToLocals, Value.category, maxLocals]; done) | rfl
theorem d24_0 : decode prog_98_method_18_code 0 = .ok (.aload_n 0, 1) := by decide +kernel
theorem d24_1 : decode prog_98_method_18_code 1 = .ok (.getfield 121, 3) := by decide +kernel
theorem d24_4 : decode prog_98_method_18_code 4 = .ok (.lreturn, 1) := by decide +kernel
set_option maxRecDepth 65536 in
set_option maxHeartbeats 40000000 in
theorem own_c24 (l : Launch) (Z : State) (a0 : Array Value) (hw : ∀ d ∈ tables_1, d.before a0 Z = true) (h0 : Heap) (n0 : Nat) (ad : Nat → Addr) (v_rn : Addr) (v_mg : Addr) (v_ra : Int32) (v_fa : Int32) (v_fk : Int32) (v_an : Int32) (v_at : Int32) (v_nx : Int64) (v_c1 : Int32) (v_c2 : Int32) (v_c3 : Int32) (v_l10 : Int64) (v_l11 : Int64) (v_l12 : Int64) (v_l20 : Int64) (v_l21 : Int64) (v_l22 : Int64) (v_l30 : Int64) (v_l31 : Int64) (v_l32 : Int64) (v_i10 : Int32) (v_i11 : Int32) (v_i12 : Int32) (v_i20 : Int32) (v_i21 : Int32) (v_i22 : Int32) (v_i30 : Int32) (v_i31 : Int32) (v_i32 : Int32) (v_k0 : Int32) (v_k1 : Int32) (v_k2 : Int32) (H : own_H Z h0 n0 ad v_rn v_mg v_ra v_fa v_fk v_an v_at v_nx v_c1 v_c2 v_c3 v_l10 v_l11 v_l12 v_l20 v_l21 v_l22 v_l30 v_l31 v_l32 v_i10 v_i11 v_i12 v_i20 v_i21 v_i22 v_i30 v_i31 v_i32 v_k0 v_k1 v_k2) :
    Con l Z (⟨"com/example/nearfield/nearfield/job/RankedReads", "packedNext", "()J"⟩ : MethodName) prog_98_method_18_code 1 (some .long) [] ({ frames := 0, cells := 0, slots := 0, locals := 0 } : Room) 0 0 #[(.ref (ad 0))] h0 (fun r h L => r = some (.long v_nx) ∧ h = h0 ∧ L = []) := by
  refine Con.of own_pn1 ?_
  intro pg ev s_ m bl mt cd s₁ hx hby hml hown hnm hret hlk hZ X0 e0
  rw [ef_24]
  show Gd _ _ _ _ (s₁.setTop (mkF m 0 #[.val (.ref (ad 0))] []))
  have N0 := Fr.nil n0
  refine Gd.go (fun _ w_k => XS.aloadN X0.here hx rfl (hb hby d24_0) rfl rfl w_k) ?_
  show Gd _ _ _ _ (s₁.setTop (mkF m 1 #[.val (.ref (ad 0))] [(.ref (ad 0))]))
  obtain ⟨T1, X1, e1, st1⟩ := getF X0 hx hZ hown (host := "") (Or.inl (ow hw 131 rfl)) Via.refl e0 H.2.2.2.2.2.2.2.2.2.2.2.2.2.2.2.2.2.2.2.2.1 (g := (mkF m 1 #[.val (.ref (ad 0))] [(.ref (ad 0))])) rfl rfl (hb hby d24_1)
  refine Gd.go (fun _ w_k => st1 _ w_k) ?_
  show Gd _ _ _ _ (T1.setTop (mkF m 4 #[.val (.ref (ad 0))] [(.long v_nx)]))
  refine own_retL X1 hx hret hlk (hb hby d24_4) ?_ (by decide) (by decide)
  exact ⟨rfl, e1, rfl⟩
theorem own_pn2 : plainFor (⟨"com/example/nearfield/nearfield/job/RankedReads", "passedAll", "()Z"⟩ : MethodName) = true := by first | exact plainFor_of_name (by first | (simp [plainName, overriddenIn, x]; done) | decide +kernel) | decide +kernel
theorem ef_26 (m : MethodId) (q0 : Addr) : entryFrame m #[(.ref q0)] 1 = mkF m 0 #[.val (.ref q0)] [] := by first | (simp [entryFrame, mkF, argsToLocals, Value.category, maxLocals]; done) | rfl
theorem d26_0 : decode prog_98_method_10_code 0 = .ok (.aload_n 0, 1) := by decide +kernel
theorem d26_1 : decode prog_98_method_10_code 1 = .ok (.getfield 110, 3) := by decide +kernel
theorem d26_4 : decode prog_98_method_10_code 4 = .ok (.aload_n 0, 1) := by decide +kernel
theorem d26_5 : decode prog_98_method_10_code 5 = .ok (.getfield 10, 3) := by decide +kernel
theorem d26_8 : decode prog_98_method_10_code 8 = .ok (.getfield 78, 3) := by decide +kernel
theorem d26_11 : decode prog_98_method_10_code 11 = .ok (.if_icmp .ne 7, 3) := by decide +kernel
theorem d26_14 : decode prog_98_method_10_code 14 = .ok (.iconst 1, 1) := by decide +kernel
theorem d26_15 : decode prog_98_method_10_code 15 = .ok (.goto 4, 3) := by decide +kernel
theorem d26_19 : decode prog_98_method_10_code 19 = .ok (.ireturn, 1) := by decide +kernel
set_option maxRecDepth 65536 in
set_option maxHeartbeats 40000000 in
theorem own_c26 (l : Launch) (Z : State) (a0 : Array Value) (hw : ∀ d ∈ tables_1, d.before a0 Z = true) (h0 : Heap) (n0 : Nat) (ad : Nat → Addr) (v_mg : Addr) (v_ra : Int32) (v_fa : Int32) (v_fk : Int32) (v_an : Int32) (v_nx : Int64) (v_c1 : Int32) (v_c3 : Int32) (v_l10 : Int64) (v_l11 : Int64) (v_l12 : Int64) (v_l20 : Int64) (v_l21 : Int64) (v_l22 : Int64) (v_l30 : Int64) (v_l31 : Int64) (v_l32 : Int64) (v_i10 : Int32) (v_i11 : Int32) (v_i12 : Int32) (v_i20 : Int32) (v_i21 : Int32) (v_i22 : Int32) (v_i30 : Int32) (v_i31 : Int32) (v_i32 : Int32) (v_k0 : Int32) (v_k1 : Int32) (v_k2 : Int32) (H : own_H Z h0 n0 ad (ad 2) v_mg v_ra v_fa v_fk v_an (3 : Int32) v_nx v_c1 (3 : Int32) v_c3 v_l10 v_l11 v_l12 v_l20 v_l21 v_l22 v_l30 v_l31 v_l32 v_i10 v_i11 v_i12 v_i20 v_i21 v_i22 v_i30 v_i31 v_i32 v_k0 v_k1 v_k2) :
    Con l Z (⟨"com/example/nearfield/nearfield/job/RankedReads", "passedAll", "()Z"⟩ : MethodName) prog_98_method_10_code 1 (some .boolean) [] ({ frames := 0, cells := 0, slots := 0, locals := 0 } : Room) 0 0 #[(.ref (ad 0))] h0 (fun r h L => r = some (.int (1 : Int32)) ∧ h = h0 ∧ L = []) := by
  refine Con.of own_pn2 ?_
  intro pg ev s_ m bl mt cd s₁ hx hby hml hown hnm hret hlk hZ X0 e0
  rw [ef_26]
  show Gd _ _ _ _ (s₁.setTop (mkF m 0 #[.val (.ref (ad 0))] []))
  have N0 := Fr.nil n0
  refine Gd.go (fun _ w_k => XS.aloadN X0.here hx rfl (hb hby d26_0) rfl rfl w_k) ?_
  show Gd _ _ _ _ (s₁.setTop (mkF m 1 #[.val (.ref (ad 0))] [(.ref (ad 0))]))
  obtain ⟨T1, X1, e1, st1⟩ := getF X0 hx hZ hown (host := "") (Or.inl (ow hw 124 rfl)) Via.refl e0 H.2.2.2.2.2.2.2.2.2.2.2.2.2.2.2.2.2.2.2.1 (g := (mkF m 1 #[.val (.ref (ad 0))] [(.ref (ad 0))])) rfl rfl (hb hby d26_1)
  refine Gd.go (fun _ w_k => st1 _ (XS.aloadN X1.here hx rfl (hb hby d26_4) rfl rfl w_k)) ?_
  show Gd _ _ _ _ (T1.setTop (mkF m 5 #[.val (.ref (ad 0))] [(.ref (ad 0)), (.int (3 : Int32))]))
  obtain ⟨T2, X2, e2, st2⟩ := getF X1 hx hZ hown (host := "") (Or.inl (ow hw 24 rfl)) Via.refl e1 H.2.2.2.2.2.2.1 (g := (mkF m 5 #[.val (.ref (ad 0))] [(.ref (ad 0)), (.int (3 : Int32))])) rfl rfl (hb hby d26_5)
  refine Gd.go (fun _ w_k => st2 _ (own_getR X2 hx hZ hown (ow hw 78 rfl) e2 H.2.2.2.2.2.2.2.2.2.2.2.2.2.2.2.2.2.2.2.2.2.2.2.2.2.2.1 (g := (mkF m 8 #[.val (.ref (ad 0))] [(.ref (ad 2)), (.int (3 : Int32))])) rfl rfl (hb hby d26_8) _ (XS.icmpNo X2.here hx rfl (hb hby d26_11) rfl (teq (by decide)).2 w_k))) ?_
  show Gd _ _ _ _ (T2.setTop (mkF m 14 #[.val (.ref (ad 0))] []))
  refine Gd.go (fun _ w_k => XS.iconst X2.here hx rfl (hb hby d26_14) (XS.goto X2.here hx rfl (pc0 := 15) (pc' := 19) rfl (hb hby d26_15) (by decide) (by decide) w_k)) ?_
  show Gd _ _ _ _ (T2.setTop (mkF m 19 #[.val (.ref (ad 0))] [(.int (1 : Int32))]))
  refine own_retN (t := .boolean) X2 hx hret hlk (by simp) (hb hby d26_19) ?_ (by decide) (by decide)
  exact ⟨rfl, e2, rfl⟩
def own_q (u f : Int64) (i : Int64) : Int64 := (u <<< ((32 : Int32) &&& 0x3f).toInt64) ||| (((1073741823 : Int64) - f) <<< ((2 : Int32) &&& 0x3f).toInt64) ||| i
theorem own_pn3 : plainFor (⟨"com/example/nearfield/nearfield/job/RankedReadsNextPinLaw", "pk", "(JJI)J"⟩ : MethodName) = true := by first | exact plainFor_of_name (by first | (simp [plainName, overriddenIn, x]; done) | decide +kernel) | decide +kernel
theorem ef_21 (m : MethodId) (q0 : Int64) (q1 : Int64) (q2 : Int32) : entryFrame m #[(.long q0), (.long q1), (.int q2)] 5 = mkF m 0 #[.val (.long q0), .second, .val (.long q1), .second, .val (.int q2)] [] := by first | (simp [entryFrame, mkF, argsToLocals, Value.category, maxLocals]; done) | rfl
theorem d21_0 : decode method_2_code 0 = .ok (.lload_n 0, 1) := by decide +kernel
theorem d21_1 : decode method_2_code 1 = .ok (.bipush 32, 2) := by decide +kernel
theorem d21_3 : decode method_2_code 3 = .ok (.lshl, 1) := by decide +kernel
theorem d21_4 : decode method_2_code 4 = .ok (.ldc2_w 7, 3) := by decide +kernel
theorem d21_7 : decode method_2_code 7 = .ok (.lload_n 2, 1) := by decide +kernel
theorem d21_8 : decode method_2_code 8 = .ok (.lsub, 1) := by decide +kernel
theorem d21_9 : decode method_2_code 9 = .ok (.iconst 2, 1) := by decide +kernel
theorem d21_10 : decode method_2_code 10 = .ok (.lshl, 1) := by decide +kernel
theorem d21_11 : decode method_2_code 11 = .ok (.lor, 1) := by decide +kernel
theorem d21_12 : decode method_2_code 12 = .ok (.iload 4, 2) := by decide +kernel
theorem d21_14 : decode method_2_code 14 = .ok (.i2l, 1) := by decide +kernel
theorem d21_15 : decode method_2_code 15 = .ok (.lor, 1) := by decide +kernel
theorem d21_16 : decode method_2_code 16 = .ok (.lreturn, 1) := by decide +kernel
set_option maxRecDepth 65536 in
set_option maxHeartbeats 40000000 in
theorem own_c21_0 (l : Launch) (Z : State) (a0 : Array Value) (hw : ∀ d ∈ tables_1, d.before a0 Z = true) (u f : Int64) (h0 : Heap) :
    Con l Z (⟨"com/example/nearfield/nearfield/job/RankedReadsNextPinLaw", "pk", "(JJI)J"⟩ : MethodName) method_2_code 5 (some .long) [] ({ frames := 0, cells := 0, slots := 0, locals := 0 } : Room) 0 0 #[(.long u), (.long f), (.int (0 : Int32))] h0 (fun r h L => r = some (.long (own_q u f (0 : Int64))) ∧ h = h0 ∧ L = []) := by
  refine Con.of own_pn3 ?_
  intro pg ev s_ m bl mt cd s₁ hx hby hml hown hnm hret hlk hZ X0 e0
  rw [ef_21]
  show Gd _ _ _ _ (s₁.setTop (mkF m 0 #[.val (.long u), .second, .val (.long f), .second, .val (.int (0 : Int32))] []))
  refine Gd.go (fun _ w_k => XS.lloadN X0.here hx rfl (hb hby d21_0) rfl (XS.bipush X0.here hx rfl (hb hby d21_1) (XS.lshl X0.here hx rfl (hb hby d21_3) rfl (X0.ldc2Long hx hown (mvT hZ (ow hw 1 rfl)) (g := (mkF m 4 #[.val (.long u), .second, .val (.long f), .second, .val (.int (0 : Int32))] [(.long (u <<< ((32 : Int32) &&& 0x3f).toInt64))])) rfl (hb hby d21_4) _ (XS.lloadN X0.here hx rfl (hb hby d21_7) rfl (XS.lsub X0.here hx rfl (hb hby d21_8) rfl (XS.iconst X0.here hx rfl (hb hby d21_9) (XS.lshl X0.here hx rfl (hb hby d21_10) rfl (XS.lor X0.here hx rfl (hb hby d21_11) rfl (XS.iload X0.here hx rfl (hb hby d21_12) rfl (XS.i2l X0.here hx rfl (hb hby d21_14) rfl w_k))))))))))) ?_
  show Gd _ _ _ _ (s₁.setTop (mkF m 15 #[.val (.long u), .second, .val (.long f), .second, .val (.int (0 : Int32))] [(.long ((0 : Int32).toInt64)), (.long ((u <<< ((32 : Int32) &&& 0x3f).toInt64) ||| (((1073741823 : Int64) - f) <<< ((2 : Int32) &&& 0x3f).toInt64)))]))
  rw [show ((0 : Int32).toInt64) = (0 : Int64) from by decide]
  show Gd _ _ _ _ (s₁.setTop (mkF m 15 #[.val (.long u), .second, .val (.long f), .second, .val (.int (0 : Int32))] [(.long (0 : Int64)), (.long ((u <<< ((32 : Int32) &&& 0x3f).toInt64) ||| (((1073741823 : Int64) - f) <<< ((2 : Int32) &&& 0x3f).toInt64)))]))
  refine Gd.go (fun _ w_k => XS.lor X0.here hx rfl (hb hby d21_15) rfl w_k) ?_
  show Gd _ _ _ _ (s₁.setTop (mkF m 16 #[.val (.long u), .second, .val (.long f), .second, .val (.int (0 : Int32))] [(.long (((u <<< ((32 : Int32) &&& 0x3f).toInt64) ||| (((1073741823 : Int64) - f) <<< ((2 : Int32) &&& 0x3f).toInt64)) ||| (0 : Int64)))]))
  refine own_retL X0 hx hret hlk (hb hby d21_16) ?_ (by decide) (by decide)
  exact ⟨rfl, e0, rfl⟩
set_option maxRecDepth 65536 in
set_option maxHeartbeats 40000000 in
theorem own_c21_1 (l : Launch) (Z : State) (a0 : Array Value) (hw : ∀ d ∈ tables_1, d.before a0 Z = true) (u f : Int64) (h0 : Heap) :
    Con l Z (⟨"com/example/nearfield/nearfield/job/RankedReadsNextPinLaw", "pk", "(JJI)J"⟩ : MethodName) method_2_code 5 (some .long) [] ({ frames := 0, cells := 0, slots := 0, locals := 0 } : Room) 0 0 #[(.long u), (.long f), (.int (1 : Int32))] h0 (fun r h L => r = some (.long (own_q u f (1 : Int64))) ∧ h = h0 ∧ L = []) := by
  refine Con.of own_pn3 ?_
  intro pg ev s_ m bl mt cd s₁ hx hby hml hown hnm hret hlk hZ X0 e0
  rw [ef_21]
  show Gd _ _ _ _ (s₁.setTop (mkF m 0 #[.val (.long u), .second, .val (.long f), .second, .val (.int (1 : Int32))] []))
  refine Gd.go (fun _ w_k => XS.lloadN X0.here hx rfl (hb hby d21_0) rfl (XS.bipush X0.here hx rfl (hb hby d21_1) (XS.lshl X0.here hx rfl (hb hby d21_3) rfl (X0.ldc2Long hx hown (mvT hZ (ow hw 1 rfl)) (g := (mkF m 4 #[.val (.long u), .second, .val (.long f), .second, .val (.int (1 : Int32))] [(.long (u <<< ((32 : Int32) &&& 0x3f).toInt64))])) rfl (hb hby d21_4) _ (XS.lloadN X0.here hx rfl (hb hby d21_7) rfl (XS.lsub X0.here hx rfl (hb hby d21_8) rfl (XS.iconst X0.here hx rfl (hb hby d21_9) (XS.lshl X0.here hx rfl (hb hby d21_10) rfl (XS.lor X0.here hx rfl (hb hby d21_11) rfl (XS.iload X0.here hx rfl (hb hby d21_12) rfl (XS.i2l X0.here hx rfl (hb hby d21_14) rfl w_k))))))))))) ?_
  show Gd _ _ _ _ (s₁.setTop (mkF m 15 #[.val (.long u), .second, .val (.long f), .second, .val (.int (1 : Int32))] [(.long ((1 : Int32).toInt64)), (.long ((u <<< ((32 : Int32) &&& 0x3f).toInt64) ||| (((1073741823 : Int64) - f) <<< ((2 : Int32) &&& 0x3f).toInt64)))]))
  rw [show ((1 : Int32).toInt64) = (1 : Int64) from by decide]
  show Gd _ _ _ _ (s₁.setTop (mkF m 15 #[.val (.long u), .second, .val (.long f), .second, .val (.int (1 : Int32))] [(.long (1 : Int64)), (.long ((u <<< ((32 : Int32) &&& 0x3f).toInt64) ||| (((1073741823 : Int64) - f) <<< ((2 : Int32) &&& 0x3f).toInt64)))]))
  refine Gd.go (fun _ w_k => XS.lor X0.here hx rfl (hb hby d21_15) rfl w_k) ?_
  show Gd _ _ _ _ (s₁.setTop (mkF m 16 #[.val (.long u), .second, .val (.long f), .second, .val (.int (1 : Int32))] [(.long (((u <<< ((32 : Int32) &&& 0x3f).toInt64) ||| (((1073741823 : Int64) - f) <<< ((2 : Int32) &&& 0x3f).toInt64)) ||| (1 : Int64)))]))
  refine own_retL X0 hx hret hlk (hb hby d21_16) ?_ (by decide) (by decide)
  exact ⟨rfl, e0, rfl⟩
set_option maxRecDepth 65536 in
set_option maxHeartbeats 40000000 in
theorem own_c21_2 (l : Launch) (Z : State) (a0 : Array Value) (hw : ∀ d ∈ tables_1, d.before a0 Z = true) (u f : Int64) (h0 : Heap) :
    Con l Z (⟨"com/example/nearfield/nearfield/job/RankedReadsNextPinLaw", "pk", "(JJI)J"⟩ : MethodName) method_2_code 5 (some .long) [] ({ frames := 0, cells := 0, slots := 0, locals := 0 } : Room) 0 0 #[(.long u), (.long f), (.int (2 : Int32))] h0 (fun r h L => r = some (.long (own_q u f (2 : Int64))) ∧ h = h0 ∧ L = []) := by
  refine Con.of own_pn3 ?_
  intro pg ev s_ m bl mt cd s₁ hx hby hml hown hnm hret hlk hZ X0 e0
  rw [ef_21]
  show Gd _ _ _ _ (s₁.setTop (mkF m 0 #[.val (.long u), .second, .val (.long f), .second, .val (.int (2 : Int32))] []))
  refine Gd.go (fun _ w_k => XS.lloadN X0.here hx rfl (hb hby d21_0) rfl (XS.bipush X0.here hx rfl (hb hby d21_1) (XS.lshl X0.here hx rfl (hb hby d21_3) rfl (X0.ldc2Long hx hown (mvT hZ (ow hw 1 rfl)) (g := (mkF m 4 #[.val (.long u), .second, .val (.long f), .second, .val (.int (2 : Int32))] [(.long (u <<< ((32 : Int32) &&& 0x3f).toInt64))])) rfl (hb hby d21_4) _ (XS.lloadN X0.here hx rfl (hb hby d21_7) rfl (XS.lsub X0.here hx rfl (hb hby d21_8) rfl (XS.iconst X0.here hx rfl (hb hby d21_9) (XS.lshl X0.here hx rfl (hb hby d21_10) rfl (XS.lor X0.here hx rfl (hb hby d21_11) rfl (XS.iload X0.here hx rfl (hb hby d21_12) rfl (XS.i2l X0.here hx rfl (hb hby d21_14) rfl w_k))))))))))) ?_
  show Gd _ _ _ _ (s₁.setTop (mkF m 15 #[.val (.long u), .second, .val (.long f), .second, .val (.int (2 : Int32))] [(.long ((2 : Int32).toInt64)), (.long ((u <<< ((32 : Int32) &&& 0x3f).toInt64) ||| (((1073741823 : Int64) - f) <<< ((2 : Int32) &&& 0x3f).toInt64)))]))
  rw [show ((2 : Int32).toInt64) = (2 : Int64) from by decide]
  show Gd _ _ _ _ (s₁.setTop (mkF m 15 #[.val (.long u), .second, .val (.long f), .second, .val (.int (2 : Int32))] [(.long (2 : Int64)), (.long ((u <<< ((32 : Int32) &&& 0x3f).toInt64) ||| (((1073741823 : Int64) - f) <<< ((2 : Int32) &&& 0x3f).toInt64)))]))
  refine Gd.go (fun _ w_k => XS.lor X0.here hx rfl (hb hby d21_15) rfl w_k) ?_
  show Gd _ _ _ _ (s₁.setTop (mkF m 16 #[.val (.long u), .second, .val (.long f), .second, .val (.int (2 : Int32))] [(.long (((u <<< ((32 : Int32) &&& 0x3f).toInt64) ||| (((1073741823 : Int64) - f) <<< ((2 : Int32) &&& 0x3f).toInt64)) ||| (2 : Int64)))]))
  refine own_retL X0 hx hret hlk (hb hby d21_16) ?_ (by decide) (by decide)
  exact ⟨rfl, e0, rfl⟩
def own_pos (x y z : Int64) : Int32 := (if y < x then 1 else 0) + (if z < x then 1 else 0)
theorem own_pn4 : plainFor (⟨"com/example/nearfield/nearfield/job/RankedReadsNextPinLaw", "pos", "(JJJ)I"⟩ : MethodName) = true := by first | exact plainFor_of_name (by first | (simp [plainName, overriddenIn, x]; done) | decide +kernel) | decide +kernel
theorem ef_22 (m : MethodId) (q0 : Int64) (q1 : Int64) (q2 : Int64) : entryFrame m #[(.long q0), (.long q1), (.long q2)] 7 = mkF m 0 #[.val (.long q0), .second, .val (.long q1), .second, .val (.long q2), .second, .unset] [] := by first | (simp [entryFrame, mkF, argsToLocals, Value.category, maxLocals]; done) | rfl
theorem d22_0 : decode method_3_code 0 = .ok (.iconst 0, 1) := by decide +kernel
theorem d22_1 : decode method_3_code 1 = .ok (.istore 6, 2) := by decide +kernel
theorem d22_3 : decode method_3_code 3 = .ok (.lload_n 2, 1) := by decide +kernel
theorem d22_4 : decode method_3_code 4 = .ok (.lload_n 0, 1) := by decide +kernel
theorem d22_5 : decode method_3_code 5 = .ok (.lcmp, 1) := by decide +kernel
theorem d22_6 : decode method_3_code 6 = .ok (.ifCond .ge 6, 3) := by decide +kernel
theorem d22_9 : decode method_3_code 9 = .ok (.iinc 6 1, 3) := by decide +kernel
theorem d22_12 : decode method_3_code 12 = .ok (.lload 4, 2) := by decide +kernel
theorem d22_14 : decode method_3_code 14 = .ok (.lload_n 0, 1) := by decide +kernel
theorem d22_15 : decode method_3_code 15 = .ok (.lcmp, 1) := by decide +kernel
theorem d22_16 : decode method_3_code 16 = .ok (.ifCond .ge 6, 3) := by decide +kernel
theorem d22_19 : decode method_3_code 19 = .ok (.iinc 6 1, 3) := by decide +kernel
theorem d22_22 : decode method_3_code 22 = .ok (.iload 6, 2) := by decide +kernel
theorem d22_24 : decode method_3_code 24 = .ok (.ireturn, 1) := by decide +kernel
set_option maxRecDepth 65536 in
set_option maxHeartbeats 40000000 in
theorem own_c22 (l : Launch) (Z : State) (a0 : Array Value) (hw : ∀ d ∈ tables_1, d.before a0 Z = true) (x y z : Int64) (h0 : Heap) :
    Con l Z (⟨"com/example/nearfield/nearfield/job/RankedReadsNextPinLaw", "pos", "(JJJ)I"⟩ : MethodName) method_3_code 7 (some .int) [] ({ frames := 0, cells := 0, slots := 0, locals := 0 } : Room) 0 0 #[(.long x), (.long y), (.long z)] h0 (fun r h L => r = some (.int (own_pos x y z)) ∧ h = h0 ∧ L = []) := by
  refine Con.of own_pn4 ?_
  intro pg ev s_ m bl mt cd s₁ hx hby hml hown hnm hret hlk hZ X0 e0
  rw [ef_22]
  show Gd _ _ _ _ (s₁.setTop (mkF m 0 #[.val (.long x), .second, .val (.long y), .second, .val (.long z), .second, .unset] []))
  refine Gd.go (fun _ w_k => XS.iconst X0.here hx rfl (hb hby d22_0) (XS.istore X0.here hx rfl (hb hby d22_1) rfl (l' := #[.val (.long x), .second, .val (.long y), .second, .val (.long z), .second, .val (.int (0 : Int32))]) rfl (XS.lloadN X0.here hx rfl (hb hby d22_3) rfl (XS.lloadN X0.here hx rfl (hb hby d22_4) rfl (XS.lcmp X0.here hx rfl (hb hby d22_5) rfl w_k))))) ?_
  show Gd _ _ _ _ (s₁.setTop (mkF m 6 #[.val (.long x), .second, .val (.long y), .second, .val (.long z), .second, .val (.int (0 : Int32))] [(.int (lcmpW y x))]))
  by_cases hc1 : y < x
  · refine Gd.go (fun _ w_k => XS.ifNo X0.here hx rfl (hb hby d22_6) rfl ((if0 _ _).trans (tlt ((lw_lt _ _).mpr hc1)).2.1) w_k) ?_
    show Gd _ _ _ _ (s₁.setTop (mkF m 9 #[.val (.long x), .second, .val (.long y), .second, .val (.long z), .second, .val (.int (0 : Int32))] []))
    refine Gd.go (fun _ w_k => XS.iinc X0.here hx rfl (hb hby d22_9) rfl (l' := #[.val (.long x), .second, .val (.long y), .second, .val (.long z), .second, .val (.int ((0 : Int32) + (1 : Int32)))]) rfl w_k) ?_
    show Gd _ _ _ _ (s₁.setTop (mkF m 12 #[.val (.long x), .second, .val (.long y), .second, .val (.long z), .second, .val (.int ((0 : Int32) + (1 : Int32)))] []))
    rw [show ((0 : Int32) + (1 : Int32)) = (1 : Int32) from by decide]
    show Gd _ _ _ _ (s₁.setTop (mkF m 12 #[.val (.long x), .second, .val (.long y), .second, .val (.long z), .second, .val (.int (1 : Int32))] []))
    refine Gd.go (fun _ w_k => XS.lload X0.here hx rfl (hb hby d22_12) rfl (XS.lloadN X0.here hx rfl (hb hby d22_14) rfl (XS.lcmp X0.here hx rfl (hb hby d22_15) rfl w_k))) ?_
    show Gd _ _ _ _ (s₁.setTop (mkF m 16 #[.val (.long x), .second, .val (.long y), .second, .val (.long z), .second, .val (.int (1 : Int32))] [(.int (lcmpW z x))]))
    by_cases hc2 : z < x
    · refine Gd.go (fun _ w_k => XS.ifNo X0.here hx rfl (hb hby d22_16) rfl ((if0 _ _).trans (tlt ((lw_lt _ _).mpr hc2)).2.1) w_k) ?_
      show Gd _ _ _ _ (s₁.setTop (mkF m 19 #[.val (.long x), .second, .val (.long y), .second, .val (.long z), .second, .val (.int (1 : Int32))] []))
      refine Gd.go (fun _ w_k => XS.iinc X0.here hx rfl (hb hby d22_19) rfl (l' := #[.val (.long x), .second, .val (.long y), .second, .val (.long z), .second, .val (.int ((1 : Int32) + (1 : Int32)))]) rfl w_k) ?_
      show Gd _ _ _ _ (s₁.setTop (mkF m 22 #[.val (.long x), .second, .val (.long y), .second, .val (.long z), .second, .val (.int ((1 : Int32) + (1 : Int32)))] []))
      rw [show ((1 : Int32) + (1 : Int32)) = (2 : Int32) from by decide]
      show Gd _ _ _ _ (s₁.setTop (mkF m 22 #[.val (.long x), .second, .val (.long y), .second, .val (.long z), .second, .val (.int (2 : Int32))] []))
      refine Gd.go (fun _ w_k => XS.iload X0.here hx rfl (hb hby d22_22) rfl w_k) ?_
      show Gd _ _ _ _ (s₁.setTop (mkF m 24 #[.val (.long x), .second, .val (.long y), .second, .val (.long z), .second, .val (.int (2 : Int32))] [(.int (2 : Int32))]))
      refine own_retI X0 hx hret hlk (hb hby d22_24) ?_ (by decide) (by decide)
      exact ⟨by unfold own_pos; simp only [eq_true hc1, eq_true hc2, if_true, if_false]; rfl, e0, rfl⟩
    · refine Gd.go (fun _ w_k => XS.ifYes X0.here hx rfl (pc0 := 16) (pc' := 22) rfl (hb hby d22_16) rfl ((if0 _ _).trans (flt (fun q => hc2 ((lw_lt _ _).mp q))).2.1) (by decide) (by decide) w_k) ?_
      show Gd _ _ _ _ (s₁.setTop (mkF m 22 #[.val (.long x), .second, .val (.long y), .second, .val (.long z), .second, .val (.int (1 : Int32))] []))
      refine Gd.go (fun _ w_k => XS.iload X0.here hx rfl (hb hby d22_22) rfl w_k) ?_
      show Gd _ _ _ _ (s₁.setTop (mkF m 24 #[.val (.long x), .second, .val (.long y), .second, .val (.long z), .second, .val (.int (1 : Int32))] [(.int (1 : Int32))]))
      refine own_retI X0 hx hret hlk (hb hby d22_24) ?_ (by decide) (by decide)
      exact ⟨by unfold own_pos; simp only [eq_true hc1, eq_false hc2, if_true, if_false]; rfl, e0, rfl⟩
  · refine Gd.go (fun _ w_k => XS.ifYes X0.here hx rfl (pc0 := 6) (pc' := 12) rfl (hb hby d22_6) rfl ((if0 _ _).trans (flt (fun q => hc1 ((lw_lt _ _).mp q))).2.1) (by decide) (by decide) w_k) ?_
    show Gd _ _ _ _ (s₁.setTop (mkF m 12 #[.val (.long x), .second, .val (.long y), .second, .val (.long z), .second, .val (.int (0 : Int32))] []))
    refine Gd.go (fun _ w_k => XS.lload X0.here hx rfl (hb hby d22_12) rfl (XS.lloadN X0.here hx rfl (hb hby d22_14) rfl (XS.lcmp X0.here hx rfl (hb hby d22_15) rfl w_k))) ?_
    show Gd _ _ _ _ (s₁.setTop (mkF m 16 #[.val (.long x), .second, .val (.long y), .second, .val (.long z), .second, .val (.int (0 : Int32))] [(.int (lcmpW z x))]))
    by_cases hc3 : z < x
    · refine Gd.go (fun _ w_k => XS.ifNo X0.here hx rfl (hb hby d22_16) rfl ((if0 _ _).trans (tlt ((lw_lt _ _).mpr hc3)).2.1) w_k) ?_
      show Gd _ _ _ _ (s₁.setTop (mkF m 19 #[.val (.long x), .second, .val (.long y), .second, .val (.long z), .second, .val (.int (0 : Int32))] []))
      refine Gd.go (fun _ w_k => XS.iinc X0.here hx rfl (hb hby d22_19) rfl (l' := #[.val (.long x), .second, .val (.long y), .second, .val (.long z), .second, .val (.int ((0 : Int32) + (1 : Int32)))]) rfl w_k) ?_
      show Gd _ _ _ _ (s₁.setTop (mkF m 22 #[.val (.long x), .second, .val (.long y), .second, .val (.long z), .second, .val (.int ((0 : Int32) + (1 : Int32)))] []))
      rw [show ((0 : Int32) + (1 : Int32)) = (1 : Int32) from by decide]
      show Gd _ _ _ _ (s₁.setTop (mkF m 22 #[.val (.long x), .second, .val (.long y), .second, .val (.long z), .second, .val (.int (1 : Int32))] []))
      refine Gd.go (fun _ w_k => XS.iload X0.here hx rfl (hb hby d22_22) rfl w_k) ?_
      show Gd _ _ _ _ (s₁.setTop (mkF m 24 #[.val (.long x), .second, .val (.long y), .second, .val (.long z), .second, .val (.int (1 : Int32))] [(.int (1 : Int32))]))
      refine own_retI X0 hx hret hlk (hb hby d22_24) ?_ (by decide) (by decide)
      exact ⟨by unfold own_pos; simp only [eq_false hc1, eq_true hc3, if_true, if_false]; rfl, e0, rfl⟩
    · refine Gd.go (fun _ w_k => XS.ifYes X0.here hx rfl (pc0 := 16) (pc' := 22) rfl (hb hby d22_16) rfl ((if0 _ _).trans (flt (fun q => hc3 ((lw_lt _ _).mp q))).2.1) (by decide) (by decide) w_k) ?_
      show Gd _ _ _ _ (s₁.setTop (mkF m 22 #[.val (.long x), .second, .val (.long y), .second, .val (.long z), .second, .val (.int (0 : Int32))] []))
      refine Gd.go (fun _ w_k => XS.iload X0.here hx rfl (hb hby d22_22) rfl w_k) ?_
      show Gd _ _ _ _ (s₁.setTop (mkF m 24 #[.val (.long x), .second, .val (.long y), .second, .val (.long z), .second, .val (.int (0 : Int32))] [(.int (0 : Int32))]))
      refine own_retI X0 hx hret hlk (hb hby d22_24) ?_ (by decide) (by decide)
      exact ⟨by unfold own_pos; simp only [eq_false hc1, eq_false hc3, if_true, if_false]; rfl, e0, rfl⟩
theorem own_pn5 : plainFor (⟨"com/example/nearfield/nearfield/job/RankedReads", "rankAnew", "(I)V"⟩ : MethodName) = true := by first | exact plainFor_of_name (by first | (simp [plainName, overriddenIn, x]; done) | decide +kernel) | decide +kernel
theorem ef_25 (m : MethodId) (q0 : Addr) (q1 : Int32) : entryFrame m #[(.ref q0), (.int q1)] 2 = mkF m 0 #[.val (.ref q0), .val (.int q1)] [] := by first | (simp [entryFrame, mkF, argsToLocals, Value.category, maxLocals]; done) | rfl
theorem d25_0 : decode prog_98_method_3_code 0 = .ok (.aload_n 0, 1) := by decide +kernel
theorem d25_1 : decode prog_98_method_3_code 1 = .ok (.getfield 53, 3) := by decide +kernel
theorem d25_4 : decode prog_98_method_3_code 4 = .ok (.iload_n 1, 1) := by decide +kernel
theorem d25_5 : decode prog_98_method_3_code 5 = .ok (.dup2, 1) := by decide +kernel
theorem d25_6 : decode prog_98_method_3_code 6 = .ok (.iaload, 1) := by decide +kernel
theorem d25_7 : decode prog_98_method_3_code 7 = .ok (.iconst 1, 1) := by decide +kernel
theorem d25_8 : decode prog_98_method_3_code 8 = .ok (.iadd, 1) := by decide +kernel
theorem d25_9 : decode prog_98_method_3_code 9 = .ok (.iastore, 1) := by decide +kernel
theorem own_w_k0 {Z : State} {a0 : Array Value} (hw : ∀ d ∈ tables_1, d.before a0 Z = true) {h h' : Heap} {n0 : Nat} {ad : Nat → Addr} {v_rn v_mg : Addr} {v_ra v_fa v_fk v_an v_at v_c1 v_c2 v_c3 v_i10 v_i11 v_i12 v_i20 v_i21 v_i22 v_i30 v_i31 v_i32 v_k0 v_k1 v_k2 : Int32} {v_nx v_l10 v_l11 v_l12 v_l20 v_l21 v_l22 v_l30 v_l31 v_l32 : Int64} {v : Int32} (H : own_H Z h n0 ad v_rn v_mg v_ra v_fa v_fk v_an v_at v_nx v_c1 v_c2 v_c3 v_l10 v_l11 v_l12 v_l20 v_l21 v_l22 v_l30 v_l31 v_l32 v_i10 v_i11 v_i12 v_i20 v_i21 v_i22 v_i30 v_i31 v_i32 v_k0 v_k1 v_k2) (W : Wr h h' (ad 10) (0 : Int32).toNatClampNeg (.int v)) : own_H Z h' n0 ad v_rn v_mg v_ra v_fa v_fk v_an v_at v_nx v_c1 v_c2 v_c3 v_l10 v_l11 v_l12 v_l20 v_l21 v_l22 v_l30 v_l31 v_l32 v_i10 v_i11 v_i12 v_i20 v_i21 v_i22 v_i30 v_i31 v_i32 v v_k1 v_k2 := by
  obtain ⟨hinj, hge, E0, E1, E2, E3, r_run, r_merged, r_fresh, r_serverBits, r_freeBits, r_serverMask, r_mostFree, r_mostSpend, r_runAt, r_freshAt, r_freshKept, r_ranking, r_rankedAnew, r_at, r_next, u1_rank, u1_ranking, u1_count, u2_rank, u2_ranking, u2_count, u3_rank, u3_ranking, u3_count, a_l1, a_l2, a_l3, a_i1, a_i2, a_i3, a_k⟩ := H
  exact ⟨hinj, hge, E0.wr W, E1.wr W, E2.wr W, E3.wr W, r_run.other W (Or.inl (on hinj 0 10 rfl)), r_merged.other W (Or.inl (on hinj 0 10 rfl)), r_fresh.other W (Or.inl (on hinj 0 10 rfl)), r_serverBits.other W (Or.inl (on hinj 0 10 rfl)), r_freeBits.other W (Or.inl (on hinj 0 10 rfl)), r_serverMask.other W (Or.inl (on hinj 0 10 rfl)), r_mostFree.other W (Or.inl (on hinj 0 10 rfl)), r_mostSpend.other W (Or.inl (on hinj 0 10 rfl)), r_runAt.other W (Or.inl (on hinj 0 10 rfl)), r_freshAt.other W (Or.inl (on hinj 0 10 rfl)), r_freshKept.other W (Or.inl (on hinj 0 10 rfl)), r_ranking.other W (Or.inl (on hinj 0 10 rfl)), r_rankedAnew.other W (Or.inl (on hinj 0 10 rfl)), r_at.other W (Or.inl (on hinj 0 10 rfl)), r_next.other W (Or.inl (on hinj 0 10 rfl)), u1_rank.other W (Or.inl (on hinj 1 10 rfl)), u1_ranking.other W (Or.inl (on hinj 1 10 rfl)), u1_count.other W (Or.inl (on hinj 1 10 rfl)), u2_rank.other W (Or.inl (on hinj 2 10 rfl)), u2_ranking.other W (Or.inl (on hinj 2 10 rfl)), u2_count.other W (Or.inl (on hinj 2 10 rfl)), u3_rank.other W (Or.inl (on hinj 3 10 rfl)), u3_ranking.other W (Or.inl (on hinj 3 10 rfl)), u3_count.other W (Or.inl (on hinj 3 10 rfl)), a_l1.other W (on hinj 4 10 rfl), a_l2.other W (on hinj 5 10 rfl), a_l3.other W (on hinj 6 10 rfl), a_i1.other W (on hinj 7 10 rfl), a_i2.other W (on hinj 8 10 rfl), a_i3.other W (on hinj 9 10 rfl), own_setI0 (a_k.set W)⟩
theorem d25_10 : decode prog_98_method_3_code 10 = .ok (.aload_n 0, 1) := by decide +kernel
theorem d25_11 : decode prog_98_method_3_code 11 = .ok (.iconst 1, 1) := by decide +kernel
theorem d25_12 : decode prog_98_method_3_code 12 = .ok (.putfield 57, 3) := by decide +kernel
theorem own_w_an {Z : State} {a0 : Array Value} (hw : ∀ d ∈ tables_1, d.before a0 Z = true) {h h' : Heap} {n0 : Nat} {ad : Nat → Addr} {v_rn v_mg : Addr} {v_ra v_fa v_fk v_an v_at v_c1 v_c2 v_c3 v_i10 v_i11 v_i12 v_i20 v_i21 v_i22 v_i30 v_i31 v_i32 v_k0 v_k1 v_k2 : Int32} {v_nx v_l10 v_l11 v_l12 v_l20 v_l21 v_l22 v_l30 v_l31 v_l32 : Int64} {v : Int32} (H : own_H Z h n0 ad v_rn v_mg v_ra v_fa v_fk v_an v_at v_nx v_c1 v_c2 v_c3 v_l10 v_l11 v_l12 v_l20 v_l21 v_l22 v_l30 v_l31 v_l32 v_i10 v_i11 v_i12 v_i20 v_i21 v_i22 v_i30 v_i31 v_i32 v_k0 v_k1 v_k2) (W : Wr h h' (ad 0) (Jvm.RoadKit.slotOf Z "com/example/nearfield/nearfield/job/RankedReads" "rankedAnew" "Z") (.int v)) : own_H Z h' n0 ad v_rn v_mg v_ra v_fa v_fk v v_at v_nx v_c1 v_c2 v_c3 v_l10 v_l11 v_l12 v_l20 v_l21 v_l22 v_l30 v_l31 v_l32 v_i10 v_i11 v_i12 v_i20 v_i21 v_i22 v_i30 v_i31 v_i32 v_k0 v_k1 v_k2 := by
  obtain ⟨hinj, hge, E0, E1, E2, E3, r_run, r_merged, r_fresh, r_serverBits, r_freeBits, r_serverMask, r_mostFree, r_mostSpend, r_runAt, r_freshAt, r_freshKept, r_ranking, r_rankedAnew, r_at, r_next, u1_rank, u1_ranking, u1_count, u2_rank, u2_ranking, u2_count, u3_rank, u3_ranking, u3_count, a_l1, a_l2, a_l3, a_i1, a_i2, a_i3, a_k⟩ := H
  exact ⟨hinj, hge, E0.wr W, E1.wr W, E2.wr W, E3.wr W, r_run.other W (Or.inr (slot_ne (Or.inl (ow hw 25 rfl)) (Or.inl (ow hw 123 rfl)) (by decide) (t := (.object "com/example/nearfield/nearfield/job/RankedReads$Run")) (t' := .boolean) (by decide) (by decide))), r_merged.other W (Or.inr (slot_ne (Or.inl (ow hw 27 rfl)) (Or.inl (ow hw 123 rfl)) (by decide) (t := (.object "com/example/nearfield/nearfield/job/RankedReads$Run")) (t' := .boolean) (by decide) (by decide))), r_fresh.other W (Or.inr (slot_ne (Or.inr (ow hw 29 rfl)) (Or.inl (ow hw 123 rfl)) (by decide) (t := (.object "com/example/nearfield/nearfield/job/RankedReads$Run")) (t' := .boolean) (by decide) (by decide))), r_serverBits.other W (Or.inr (slot_ne (Or.inr (ow hw 40 rfl)) (Or.inl (ow hw 123 rfl)) (by decide) (t := .int) (t' := .boolean) (by decide) (by decide))), r_freeBits.other W (Or.inr (slot_ne (Or.inr (ow hw 42 rfl)) (Or.inl (ow hw 123 rfl)) (by decide) (t := .int) (t' := .boolean) (by decide) (by decide))), r_serverMask.other W (Or.inr (slot_ne (Or.inr (ow hw 44 rfl)) (Or.inl (ow hw 123 rfl)) (by decide) (t := .long) (t' := .boolean) (by decide) (by decide))), r_mostFree.other W (Or.inr (slot_ne (Or.inr (ow hw 46 rfl)) (Or.inl (ow hw 123 rfl)) (by decide) (t := .long) (t' := .boolean) (by decide) (by decide))), r_mostSpend.other W (Or.inr (slot_ne (Or.inr (ow hw 48 rfl)) (Or.inl (ow hw 123 rfl)) (by decide) (t := .long) (t' := .boolean) (by decide) (by decide))), r_runAt.other W (Or.inr (slot_ne (Or.inl (ow hw 117 rfl)) (Or.inl (ow hw 123 rfl)) (by decide) (t := .int) (t' := .boolean) (by decide) (by decide))), r_freshAt.other W (Or.inr (slot_ne (Or.inl (ow hw 82 rfl)) (Or.inl (ow hw 123 rfl)) (by decide) (t := .int) (t' := .boolean) (by decide) (by decide))), r_freshKept.other W (Or.inr (slot_ne (Or.inl (ow hw 80 rfl)) (Or.inl (ow hw 123 rfl)) (by decide) (t := .int) (t' := .boolean) (by decide) (by decide))), r_ranking.other W (Or.inr (slot_ne (Or.inr (ow hw 50 rfl)) (Or.inl (ow hw 123 rfl)) (by decide) (t := (.array .int)) (t' := .boolean) (by decide) (by decide))), r_rankedAnew.same W, r_at.other W (Or.inr (slot_ne (Or.inl (ow hw 125 rfl)) (Or.inl (ow hw 123 rfl)) (by decide) (t := .int) (t' := .boolean) (by decide) (by decide))), r_next.other W (Or.inr (slot_ne (Or.inl (ow hw 132 rfl)) (Or.inl (ow hw 123 rfl)) (by decide) (t := .long) (t' := .boolean) (by decide) (by decide))), u1_rank.other W (Or.inl (on hinj 1 0 rfl)), u1_ranking.other W (Or.inl (on hinj 1 0 rfl)), u1_count.other W (Or.inl (on hinj 1 0 rfl)), u2_rank.other W (Or.inl (on hinj 2 0 rfl)), u2_ranking.other W (Or.inl (on hinj 2 0 rfl)), u2_count.other W (Or.inl (on hinj 2 0 rfl)), u3_rank.other W (Or.inl (on hinj 3 0 rfl)), u3_ranking.other W (Or.inl (on hinj 3 0 rfl)), u3_count.other W (Or.inl (on hinj 3 0 rfl)), a_l1.other W (on hinj 4 0 rfl), a_l2.other W (on hinj 5 0 rfl), a_l3.other W (on hinj 6 0 rfl), a_i1.other W (on hinj 7 0 rfl), a_i2.other W (on hinj 8 0 rfl), a_i3.other W (on hinj 9 0 rfl), a_k.other W (on hinj 10 0 rfl)⟩
theorem d25_15 : decode prog_98_method_3_code 15 = .ok (.return_, 1) := by decide +kernel
set_option maxRecDepth 65536 in
set_option maxHeartbeats 40000000 in
theorem own_c25_0 (l : Launch) (Z : State) (a0 : Array Value) (hw : ∀ d ∈ tables_1, d.before a0 Z = true) (h0 : Heap) (n0 : Nat) (ad : Nat → Addr) (v_rn : Addr) (v_mg : Addr) (v_ra : Int32) (v_fa : Int32) (v_fk : Int32) (v_an : Int32) (v_at : Int32) (v_nx : Int64) (v_c1 : Int32) (v_c2 : Int32) (v_c3 : Int32) (v_l10 : Int64) (v_l11 : Int64) (v_l12 : Int64) (v_l20 : Int64) (v_l21 : Int64) (v_l22 : Int64) (v_l30 : Int64) (v_l31 : Int64) (v_l32 : Int64) (v_i10 : Int32) (v_i11 : Int32) (v_i12 : Int32) (v_i20 : Int32) (v_i21 : Int32) (v_i22 : Int32) (v_i30 : Int32) (v_i31 : Int32) (v_i32 : Int32) (v_k0 : Int32) (v_k1 : Int32) (v_k2 : Int32) (H : own_H Z h0 n0 ad v_rn v_mg v_ra v_fa v_fk v_an v_at v_nx v_c1 v_c2 v_c3 v_l10 v_l11 v_l12 v_l20 v_l21 v_l22 v_l30 v_l31 v_l32 v_i10 v_i11 v_i12 v_i20 v_i21 v_i22 v_i30 v_i31 v_i32 v_k0 v_k1 v_k2) :
    Con l Z (⟨"com/example/nearfield/nearfield/job/RankedReads", "rankAnew", "(I)V"⟩ : MethodName) prog_98_method_3_code 2 none [] ({ frames := 0, cells := 0, slots := 0, locals := 0 } : Room) 0 0 #[(.ref (ad 0)), (.int (0 : Int32))] h0 (fun r h L => r = none ∧ own_H Z h n0 ad v_rn v_mg v_ra v_fa v_fk (1 : Int32) v_at v_nx v_c1 v_c2 v_c3 v_l10 v_l11 v_l12 v_l20 v_l21 v_l22 v_l30 v_l31 v_l32 v_i10 v_i11 v_i12 v_i20 v_i21 v_i22 v_i30 v_i31 v_i32 (v_k0 + (1 : Int32)) v_k1 v_k2 ∧ Keep h0 h [ad 0, ad 10] ∧ Fr n0 L) := by
  refine Con.of own_pn5 ?_
  intro pg ev s_ m bl mt cd s₁ hx hby hml hown hnm hret hlk hZ X0 e0
  rw [ef_25]
  show Gd _ _ _ _ (s₁.setTop (mkF m 0 #[.val (.ref (ad 0)), .val (.int (0 : Int32))] []))
  have N0 := Fr.nil n0
  have K0 := Keep.refl h0 [(ad 0), (ad 10)]
  refine Gd.go (fun _ w_k => XS.aloadN X0.here hx rfl (hb hby d25_0) rfl rfl w_k) ?_
  show Gd _ _ _ _ (s₁.setTop (mkF m 1 #[.val (.ref (ad 0)), .val (.int (0 : Int32))] [(.ref (ad 0))]))
  obtain ⟨T1, X1, e1, st1⟩ := getF X0 hx hZ hown (host := "") (Or.inl (ow hw 49 rfl)) Via.refl e0 H.2.2.2.2.2.2.2.2.2.2.2.2.2.2.2.2.2.1 (g := (mkF m 1 #[.val (.ref (ad 0)), .val (.int (0 : Int32))] [(.ref (ad 0))])) rfl rfl (hb hby d25_1)
  refine Gd.go (fun _ w_k => st1 _ (XS.iloadN X1.here hx rfl (hb hby d25_4) rfl (XT.dup2 X1.here hx rfl (hb hby d25_5) rfl rfl rfl (own_ldI X1 hx hZ e1 H.2.2.2.2.2.2.2.2.2.2.2.2.2.2.2.2.2.2.2.2.2.2.2.2.2.2.2.2.2.2.2.2.2.2.2.2 (j := (0 : Int32)) (by decide) (by decide) (v := (.int v_k0)) rfl (g := (mkF m 6 #[.val (.ref (ad 0)), .val (.int (0 : Int32))] [(.int (0 : Int32)), (.ref (ad 10)), (.int (0 : Int32)), (.ref (ad 10))])) rfl rfl (hb hby d25_6) _ (XS.iconst X1.here hx rfl (hb hby d25_7) (XS.iadd X1.here hx rfl (hb hby d25_8) rfl w_k)))))) ?_
  show Gd _ _ _ _ (T1.setTop (mkF m 9 #[.val (.ref (ad 0)), .val (.int (0 : Int32))] [(.int (v_k0 + (1 : Int32))), (.int (0 : Int32)), (.ref (ad 10))]))
  obtain ⟨T2, h2, X2, e2, W2, st2⟩ := own_stI X1 hx hZ e1 H.2.2.2.2.2.2.2.2.2.2.2.2.2.2.2.2.2.2.2.2.2.2.2.2.2.2.2.2.2.2.2.2.2.2.2.2 (j := (0 : Int32)) (by decide) (by decide) (g := (mkF m 9 #[.val (.ref (ad 0)), .val (.int (0 : Int32))] [(.int (v_k0 + (1 : Int32))), (.int (0 : Int32)), (.ref (ad 10))])) rfl rfl (hb hby d25_9)
  refine Gd.go (fun _ w_k => st2 _ w_k) ?_
  have H3 := own_w_k0 hw H W2
  have xN4 := Fr.snoc X2 N0 (H.2.1 10 (by decide))
  have xK5 := Keep.wr K0 W2 (Or.inl (by simp))
  show Gd _ _ _ _ (T2.setTop (mkF m 10 #[.val (.ref (ad 0)), .val (.int (0 : Int32))] []))
  refine Gd.go (fun _ w_k => XS.aloadN X2.here hx rfl (hb hby d25_10) rfl rfl (XS.iconst X2.here hx rfl (hb hby d25_11) w_k)) ?_
  show Gd _ _ _ _ (T2.setTop (mkF m 12 #[.val (.ref (ad 0)), .val (.int (0 : Int32))] [(.int (1 : Int32)), (.ref (ad 0))]))
  obtain ⟨T6, h6, X6, e6, W6, st6⟩ := putF X2 hx hZ hown (host := "") (Or.inl (ow hw 122 rfl)) Via.refl e2 H3.2.2.2.2.2.2.2.2.2.2.2.2.2.2.2.2.2.2.1 H3.2.2.1 (Or.inl (ow hw 123 rfl)) (ow hw 3 rfl) (ty := .boolean) (by decide) rfl rfl (g := (mkF m 12 #[.val (.ref (ad 0)), .val (.int (0 : Int32))] [(.int (1 : Int32)), (.ref (ad 0))])) rfl rfl (hb hby d25_12)
  refine Gd.go (fun _ w_k => st6 _ w_k) ?_
  have H7 := own_w_an hw H3 W6
  have xN8 := Fr.snoc X6 xN4 (H.2.1 0 (by decide))
  have xK9 := Keep.wr xK5 W6 (Or.inl (by simp))
  show Gd _ _ _ _ (T6.setTop (mkF m 15 #[.val (.ref (ad 0)), .val (.int (0 : Int32))] []))
  refine own_retV X6 hx hret hlk (hb hby d25_15) ?_ (by decide) (by decide)
  rw [e6]
  exact ⟨rfl, H7, xK9, xN8⟩
theorem own_w_k1 {Z : State} {a0 : Array Value} (hw : ∀ d ∈ tables_1, d.before a0 Z = true) {h h' : Heap} {n0 : Nat} {ad : Nat → Addr} {v_rn v_mg : Addr} {v_ra v_fa v_fk v_an v_at v_c1 v_c2 v_c3 v_i10 v_i11 v_i12 v_i20 v_i21 v_i22 v_i30 v_i31 v_i32 v_k0 v_k1 v_k2 : Int32} {v_nx v_l10 v_l11 v_l12 v_l20 v_l21 v_l22 v_l30 v_l31 v_l32 : Int64} {v : Int32} (H : own_H Z h n0 ad v_rn v_mg v_ra v_fa v_fk v_an v_at v_nx v_c1 v_c2 v_c3 v_l10 v_l11 v_l12 v_l20 v_l21 v_l22 v_l30 v_l31 v_l32 v_i10 v_i11 v_i12 v_i20 v_i21 v_i22 v_i30 v_i31 v_i32 v_k0 v_k1 v_k2) (W : Wr h h' (ad 10) (1 : Int32).toNatClampNeg (.int v)) : own_H Z h' n0 ad v_rn v_mg v_ra v_fa v_fk v_an v_at v_nx v_c1 v_c2 v_c3 v_l10 v_l11 v_l12 v_l20 v_l21 v_l22 v_l30 v_l31 v_l32 v_i10 v_i11 v_i12 v_i20 v_i21 v_i22 v_i30 v_i31 v_i32 v_k0 v v_k2 := by
  obtain ⟨hinj, hge, E0, E1, E2, E3, r_run, r_merged, r_fresh, r_serverBits, r_freeBits, r_serverMask, r_mostFree, r_mostSpend, r_runAt, r_freshAt, r_freshKept, r_ranking, r_rankedAnew, r_at, r_next, u1_rank, u1_ranking, u1_count, u2_rank, u2_ranking, u2_count, u3_rank, u3_ranking, u3_count, a_l1, a_l2, a_l3, a_i1, a_i2, a_i3, a_k⟩ := H
  exact ⟨hinj, hge, E0.wr W, E1.wr W, E2.wr W, E3.wr W, r_run.other W (Or.inl (on hinj 0 10 rfl)), r_merged.other W (Or.inl (on hinj 0 10 rfl)), r_fresh.other W (Or.inl (on hinj 0 10 rfl)), r_serverBits.other W (Or.inl (on hinj 0 10 rfl)), r_freeBits.other W (Or.inl (on hinj 0 10 rfl)), r_serverMask.other W (Or.inl (on hinj 0 10 rfl)), r_mostFree.other W (Or.inl (on hinj 0 10 rfl)), r_mostSpend.other W (Or.inl (on hinj 0 10 rfl)), r_runAt.other W (Or.inl (on hinj 0 10 rfl)), r_freshAt.other W (Or.inl (on hinj 0 10 rfl)), r_freshKept.other W (Or.inl (on hinj 0 10 rfl)), r_ranking.other W (Or.inl (on hinj 0 10 rfl)), r_rankedAnew.other W (Or.inl (on hinj 0 10 rfl)), r_at.other W (Or.inl (on hinj 0 10 rfl)), r_next.other W (Or.inl (on hinj 0 10 rfl)), u1_rank.other W (Or.inl (on hinj 1 10 rfl)), u1_ranking.other W (Or.inl (on hinj 1 10 rfl)), u1_count.other W (Or.inl (on hinj 1 10 rfl)), u2_rank.other W (Or.inl (on hinj 2 10 rfl)), u2_ranking.other W (Or.inl (on hinj 2 10 rfl)), u2_count.other W (Or.inl (on hinj 2 10 rfl)), u3_rank.other W (Or.inl (on hinj 3 10 rfl)), u3_ranking.other W (Or.inl (on hinj 3 10 rfl)), u3_count.other W (Or.inl (on hinj 3 10 rfl)), a_l1.other W (on hinj 4 10 rfl), a_l2.other W (on hinj 5 10 rfl), a_l3.other W (on hinj 6 10 rfl), a_i1.other W (on hinj 7 10 rfl), a_i2.other W (on hinj 8 10 rfl), a_i3.other W (on hinj 9 10 rfl), own_setI1 (a_k.set W)⟩
set_option maxRecDepth 65536 in
set_option maxHeartbeats 40000000 in
theorem own_c25_1 (l : Launch) (Z : State) (a0 : Array Value) (hw : ∀ d ∈ tables_1, d.before a0 Z = true) (h0 : Heap) (n0 : Nat) (ad : Nat → Addr) (v_rn : Addr) (v_mg : Addr) (v_ra : Int32) (v_fa : Int32) (v_fk : Int32) (v_an : Int32) (v_at : Int32) (v_nx : Int64) (v_c1 : Int32) (v_c2 : Int32) (v_c3 : Int32) (v_l10 : Int64) (v_l11 : Int64) (v_l12 : Int64) (v_l20 : Int64) (v_l21 : Int64) (v_l22 : Int64) (v_l30 : Int64) (v_l31 : Int64) (v_l32 : Int64) (v_i10 : Int32) (v_i11 : Int32) (v_i12 : Int32) (v_i20 : Int32) (v_i21 : Int32) (v_i22 : Int32) (v_i30 : Int32) (v_i31 : Int32) (v_i32 : Int32) (v_k0 : Int32) (v_k1 : Int32) (v_k2 : Int32) (H : own_H Z h0 n0 ad v_rn v_mg v_ra v_fa v_fk v_an v_at v_nx v_c1 v_c2 v_c3 v_l10 v_l11 v_l12 v_l20 v_l21 v_l22 v_l30 v_l31 v_l32 v_i10 v_i11 v_i12 v_i20 v_i21 v_i22 v_i30 v_i31 v_i32 v_k0 v_k1 v_k2) :
    Con l Z (⟨"com/example/nearfield/nearfield/job/RankedReads", "rankAnew", "(I)V"⟩ : MethodName) prog_98_method_3_code 2 none [] ({ frames := 0, cells := 0, slots := 0, locals := 0 } : Room) 0 0 #[(.ref (ad 0)), (.int (1 : Int32))] h0 (fun r h L => r = none ∧ own_H Z h n0 ad v_rn v_mg v_ra v_fa v_fk (1 : Int32) v_at v_nx v_c1 v_c2 v_c3 v_l10 v_l11 v_l12 v_l20 v_l21 v_l22 v_l30 v_l31 v_l32 v_i10 v_i11 v_i12 v_i20 v_i21 v_i22 v_i30 v_i31 v_i32 v_k0 (v_k1 + (1 : Int32)) v_k2 ∧ Keep h0 h [ad 0, ad 10] ∧ Fr n0 L) := by
  refine Con.of own_pn5 ?_
  intro pg ev s_ m bl mt cd s₁ hx hby hml hown hnm hret hlk hZ X0 e0
  rw [ef_25]
  show Gd _ _ _ _ (s₁.setTop (mkF m 0 #[.val (.ref (ad 0)), .val (.int (1 : Int32))] []))
  have N0 := Fr.nil n0
  have K0 := Keep.refl h0 [(ad 0), (ad 10)]
  refine Gd.go (fun _ w_k => XS.aloadN X0.here hx rfl (hb hby d25_0) rfl rfl w_k) ?_
  show Gd _ _ _ _ (s₁.setTop (mkF m 1 #[.val (.ref (ad 0)), .val (.int (1 : Int32))] [(.ref (ad 0))]))
  obtain ⟨T1, X1, e1, st1⟩ := getF X0 hx hZ hown (host := "") (Or.inl (ow hw 49 rfl)) Via.refl e0 H.2.2.2.2.2.2.2.2.2.2.2.2.2.2.2.2.2.1 (g := (mkF m 1 #[.val (.ref (ad 0)), .val (.int (1 : Int32))] [(.ref (ad 0))])) rfl rfl (hb hby d25_1)
  refine Gd.go (fun _ w_k => st1 _ (XS.iloadN X1.here hx rfl (hb hby d25_4) rfl (XT.dup2 X1.here hx rfl (hb hby d25_5) rfl rfl rfl (own_ldI X1 hx hZ e1 H.2.2.2.2.2.2.2.2.2.2.2.2.2.2.2.2.2.2.2.2.2.2.2.2.2.2.2.2.2.2.2.2.2.2.2.2 (j := (1 : Int32)) (by decide) (by decide) (v := (.int v_k1)) rfl (g := (mkF m 6 #[.val (.ref (ad 0)), .val (.int (1 : Int32))] [(.int (1 : Int32)), (.ref (ad 10)), (.int (1 : Int32)), (.ref (ad 10))])) rfl rfl (hb hby d25_6) _ (XS.iconst X1.here hx rfl (hb hby d25_7) (XS.iadd X1.here hx rfl (hb hby d25_8) rfl w_k)))))) ?_
  show Gd _ _ _ _ (T1.setTop (mkF m 9 #[.val (.ref (ad 0)), .val (.int (1 : Int32))] [(.int (v_k1 + (1 : Int32))), (.int (1 : Int32)), (.ref (ad 10))]))
  obtain ⟨T2, h2, X2, e2, W2, st2⟩ := own_stI X1 hx hZ e1 H.2.2.2.2.2.2.2.2.2.2.2.2.2.2.2.2.2.2.2.2.2.2.2.2.2.2.2.2.2.2.2.2.2.2.2.2 (j := (1 : Int32)) (by decide) (by decide) (g := (mkF m 9 #[.val (.ref (ad 0)), .val (.int (1 : Int32))] [(.int (v_k1 + (1 : Int32))), (.int (1 : Int32)), (.ref (ad 10))])) rfl rfl (hb hby d25_9)
  refine Gd.go (fun _ w_k => st2 _ w_k) ?_
  have H3 := own_w_k1 hw H W2
  have xN4 := Fr.snoc X2 N0 (H.2.1 10 (by decide))
  have xK5 := Keep.wr K0 W2 (Or.inl (by simp))
  show Gd _ _ _ _ (T2.setTop (mkF m 10 #[.val (.ref (ad 0)), .val (.int (1 : Int32))] []))
  refine Gd.go (fun _ w_k => XS.aloadN X2.here hx rfl (hb hby d25_10) rfl rfl (XS.iconst X2.here hx rfl (hb hby d25_11) w_k)) ?_
  show Gd _ _ _ _ (T2.setTop (mkF m 12 #[.val (.ref (ad 0)), .val (.int (1 : Int32))] [(.int (1 : Int32)), (.ref (ad 0))]))
  obtain ⟨T6, h6, X6, e6, W6, st6⟩ := putF X2 hx hZ hown (host := "") (Or.inl (ow hw 122 rfl)) Via.refl e2 H3.2.2.2.2.2.2.2.2.2.2.2.2.2.2.2.2.2.2.1 H3.2.2.1 (Or.inl (ow hw 123 rfl)) (ow hw 3 rfl) (ty := .boolean) (by decide) rfl rfl (g := (mkF m 12 #[.val (.ref (ad 0)), .val (.int (1 : Int32))] [(.int (1 : Int32)), (.ref (ad 0))])) rfl rfl (hb hby d25_12)
  refine Gd.go (fun _ w_k => st6 _ w_k) ?_
  have H7 := own_w_an hw H3 W6
  have xN8 := Fr.snoc X6 xN4 (H.2.1 0 (by decide))
  have xK9 := Keep.wr xK5 W6 (Or.inl (by simp))
  show Gd _ _ _ _ (T6.setTop (mkF m 15 #[.val (.ref (ad 0)), .val (.int (1 : Int32))] []))
  refine own_retV X6 hx hret hlk (hb hby d25_15) ?_ (by decide) (by decide)
  rw [e6]
  exact ⟨rfl, H7, xK9, xN8⟩
theorem own_w_k2 {Z : State} {a0 : Array Value} (hw : ∀ d ∈ tables_1, d.before a0 Z = true) {h h' : Heap} {n0 : Nat} {ad : Nat → Addr} {v_rn v_mg : Addr} {v_ra v_fa v_fk v_an v_at v_c1 v_c2 v_c3 v_i10 v_i11 v_i12 v_i20 v_i21 v_i22 v_i30 v_i31 v_i32 v_k0 v_k1 v_k2 : Int32} {v_nx v_l10 v_l11 v_l12 v_l20 v_l21 v_l22 v_l30 v_l31 v_l32 : Int64} {v : Int32} (H : own_H Z h n0 ad v_rn v_mg v_ra v_fa v_fk v_an v_at v_nx v_c1 v_c2 v_c3 v_l10 v_l11 v_l12 v_l20 v_l21 v_l22 v_l30 v_l31 v_l32 v_i10 v_i11 v_i12 v_i20 v_i21 v_i22 v_i30 v_i31 v_i32 v_k0 v_k1 v_k2) (W : Wr h h' (ad 10) (2 : Int32).toNatClampNeg (.int v)) : own_H Z h' n0 ad v_rn v_mg v_ra v_fa v_fk v_an v_at v_nx v_c1 v_c2 v_c3 v_l10 v_l11 v_l12 v_l20 v_l21 v_l22 v_l30 v_l31 v_l32 v_i10 v_i11 v_i12 v_i20 v_i21 v_i22 v_i30 v_i31 v_i32 v_k0 v_k1 v := by
  obtain ⟨hinj, hge, E0, E1, E2, E3, r_run, r_merged, r_fresh, r_serverBits, r_freeBits, r_serverMask, r_mostFree, r_mostSpend, r_runAt, r_freshAt, r_freshKept, r_ranking, r_rankedAnew, r_at, r_next, u1_rank, u1_ranking, u1_count, u2_rank, u2_ranking, u2_count, u3_rank, u3_ranking, u3_count, a_l1, a_l2, a_l3, a_i1, a_i2, a_i3, a_k⟩ := H
  exact ⟨hinj, hge, E0.wr W, E1.wr W, E2.wr W, E3.wr W, r_run.other W (Or.inl (on hinj 0 10 rfl)), r_merged.other W (Or.inl (on hinj 0 10 rfl)), r_fresh.other W (Or.inl (on hinj 0 10 rfl)), r_serverBits.other W (Or.inl (on hinj 0 10 rfl)), r_freeBits.other W (Or.inl (on hinj 0 10 rfl)), r_serverMask.other W (Or.inl (on hinj 0 10 rfl)), r_mostFree.other W (Or.inl (on hinj 0 10 rfl)), r_mostSpend.other W (Or.inl (on hinj 0 10 rfl)), r_runAt.other W (Or.inl (on hinj 0 10 rfl)), r_freshAt.other W (Or.inl (on hinj 0 10 rfl)), r_freshKept.other W (Or.inl (on hinj 0 10 rfl)), r_ranking.other W (Or.inl (on hinj 0 10 rfl)), r_rankedAnew.other W (Or.inl (on hinj 0 10 rfl)), r_at.other W (Or.inl (on hinj 0 10 rfl)), r_next.other W (Or.inl (on hinj 0 10 rfl)), u1_rank.other W (Or.inl (on hinj 1 10 rfl)), u1_ranking.other W (Or.inl (on hinj 1 10 rfl)), u1_count.other W (Or.inl (on hinj 1 10 rfl)), u2_rank.other W (Or.inl (on hinj 2 10 rfl)), u2_ranking.other W (Or.inl (on hinj 2 10 rfl)), u2_count.other W (Or.inl (on hinj 2 10 rfl)), u3_rank.other W (Or.inl (on hinj 3 10 rfl)), u3_ranking.other W (Or.inl (on hinj 3 10 rfl)), u3_count.other W (Or.inl (on hinj 3 10 rfl)), a_l1.other W (on hinj 4 10 rfl), a_l2.other W (on hinj 5 10 rfl), a_l3.other W (on hinj 6 10 rfl), a_i1.other W (on hinj 7 10 rfl), a_i2.other W (on hinj 8 10 rfl), a_i3.other W (on hinj 9 10 rfl), own_setI2 (a_k.set W)⟩
set_option maxRecDepth 65536 in
set_option maxHeartbeats 40000000 in
theorem own_c25_2 (l : Launch) (Z : State) (a0 : Array Value) (hw : ∀ d ∈ tables_1, d.before a0 Z = true) (h0 : Heap) (n0 : Nat) (ad : Nat → Addr) (v_rn : Addr) (v_mg : Addr) (v_ra : Int32) (v_fa : Int32) (v_fk : Int32) (v_an : Int32) (v_at : Int32) (v_nx : Int64) (v_c1 : Int32) (v_c2 : Int32) (v_c3 : Int32) (v_l10 : Int64) (v_l11 : Int64) (v_l12 : Int64) (v_l20 : Int64) (v_l21 : Int64) (v_l22 : Int64) (v_l30 : Int64) (v_l31 : Int64) (v_l32 : Int64) (v_i10 : Int32) (v_i11 : Int32) (v_i12 : Int32) (v_i20 : Int32) (v_i21 : Int32) (v_i22 : Int32) (v_i30 : Int32) (v_i31 : Int32) (v_i32 : Int32) (v_k0 : Int32) (v_k1 : Int32) (v_k2 : Int32) (H : own_H Z h0 n0 ad v_rn v_mg v_ra v_fa v_fk v_an v_at v_nx v_c1 v_c2 v_c3 v_l10 v_l11 v_l12 v_l20 v_l21 v_l22 v_l30 v_l31 v_l32 v_i10 v_i11 v_i12 v_i20 v_i21 v_i22 v_i30 v_i31 v_i32 v_k0 v_k1 v_k2) :
    Con l Z (⟨"com/example/nearfield/nearfield/job/RankedReads", "rankAnew", "(I)V"⟩ : MethodName) prog_98_method_3_code 2 none [] ({ frames := 0, cells := 0, slots := 0, locals := 0 } : Room) 0 0 #[(.ref (ad 0)), (.int (2 : Int32))] h0 (fun r h L => r = none ∧ own_H Z h n0 ad v_rn v_mg v_ra v_fa v_fk (1 : Int32) v_at v_nx v_c1 v_c2 v_c3 v_l10 v_l11 v_l12 v_l20 v_l21 v_l22 v_l30 v_l31 v_l32 v_i10 v_i11 v_i12 v_i20 v_i21 v_i22 v_i30 v_i31 v_i32 v_k0 v_k1 (v_k2 + (1 : Int32)) ∧ Keep h0 h [ad 0, ad 10] ∧ Fr n0 L) := by
  refine Con.of own_pn5 ?_
  intro pg ev s_ m bl mt cd s₁ hx hby hml hown hnm hret hlk hZ X0 e0
  rw [ef_25]
  show Gd _ _ _ _ (s₁.setTop (mkF m 0 #[.val (.ref (ad 0)), .val (.int (2 : Int32))] []))
  have N0 := Fr.nil n0
  have K0 := Keep.refl h0 [(ad 0), (ad 10)]
  refine Gd.go (fun _ w_k => XS.aloadN X0.here hx rfl (hb hby d25_0) rfl rfl w_k) ?_
  show Gd _ _ _ _ (s₁.setTop (mkF m 1 #[.val (.ref (ad 0)), .val (.int (2 : Int32))] [(.ref (ad 0))]))
  obtain ⟨T1, X1, e1, st1⟩ := getF X0 hx hZ hown (host := "") (Or.inl (ow hw 49 rfl)) Via.refl e0 H.2.2.2.2.2.2.2.2.2.2.2.2.2.2.2.2.2.1 (g := (mkF m 1 #[.val (.ref (ad 0)), .val (.int (2 : Int32))] [(.ref (ad 0))])) rfl rfl (hb hby d25_1)
  refine Gd.go (fun _ w_k => st1 _ (XS.iloadN X1.here hx rfl (hb hby d25_4) rfl (XT.dup2 X1.here hx rfl (hb hby d25_5) rfl rfl rfl (own_ldI X1 hx hZ e1 H.2.2.2.2.2.2.2.2.2.2.2.2.2.2.2.2.2.2.2.2.2.2.2.2.2.2.2.2.2.2.2.2.2.2.2.2 (j := (2 : Int32)) (by decide) (by decide) (v := (.int v_k2)) rfl (g := (mkF m 6 #[.val (.ref (ad 0)), .val (.int (2 : Int32))] [(.int (2 : Int32)), (.ref (ad 10)), (.int (2 : Int32)), (.ref (ad 10))])) rfl rfl (hb hby d25_6) _ (XS.iconst X1.here hx rfl (hb hby d25_7) (XS.iadd X1.here hx rfl (hb hby d25_8) rfl w_k)))))) ?_
  show Gd _ _ _ _ (T1.setTop (mkF m 9 #[.val (.ref (ad 0)), .val (.int (2 : Int32))] [(.int (v_k2 + (1 : Int32))), (.int (2 : Int32)), (.ref (ad 10))]))
  obtain ⟨T2, h2, X2, e2, W2, st2⟩ := own_stI X1 hx hZ e1 H.2.2.2.2.2.2.2.2.2.2.2.2.2.2.2.2.2.2.2.2.2.2.2.2.2.2.2.2.2.2.2.2.2.2.2.2 (j := (2 : Int32)) (by decide) (by decide) (g := (mkF m 9 #[.val (.ref (ad 0)), .val (.int (2 : Int32))] [(.int (v_k2 + (1 : Int32))), (.int (2 : Int32)), (.ref (ad 10))])) rfl rfl (hb hby d25_9)
  refine Gd.go (fun _ w_k => st2 _ w_k) ?_
  have H3 := own_w_k2 hw H W2
  have xN4 := Fr.snoc X2 N0 (H.2.1 10 (by decide))
  have xK5 := Keep.wr K0 W2 (Or.inl (by simp))
  show Gd _ _ _ _ (T2.setTop (mkF m 10 #[.val (.ref (ad 0)), .val (.int (2 : Int32))] []))
  refine Gd.go (fun _ w_k => XS.aloadN X2.here hx rfl (hb hby d25_10) rfl rfl (XS.iconst X2.here hx rfl (hb hby d25_11) w_k)) ?_
  show Gd _ _ _ _ (T2.setTop (mkF m 12 #[.val (.ref (ad 0)), .val (.int (2 : Int32))] [(.int (1 : Int32)), (.ref (ad 0))]))
  obtain ⟨T6, h6, X6, e6, W6, st6⟩ := putF X2 hx hZ hown (host := "") (Or.inl (ow hw 122 rfl)) Via.refl e2 H3.2.2.2.2.2.2.2.2.2.2.2.2.2.2.2.2.2.2.1 H3.2.2.1 (Or.inl (ow hw 123 rfl)) (ow hw 3 rfl) (ty := .boolean) (by decide) rfl rfl (g := (mkF m 12 #[.val (.ref (ad 0)), .val (.int (2 : Int32))] [(.int (1 : Int32)), (.ref (ad 0))])) rfl rfl (hb hby d25_12)
  refine Gd.go (fun _ w_k => st6 _ w_k) ?_
  have H7 := own_w_an hw H3 W6
  have xN8 := Fr.snoc X6 xN4 (H.2.1 0 (by decide))
  have xK9 := Keep.wr xK5 W6 (Or.inl (by simp))
  show Gd _ _ _ _ (T6.setTop (mkF m 15 #[.val (.ref (ad 0)), .val (.int (2 : Int32))] []))
  refine own_retV X6 hx hret hlk (hb hby d25_15) ?_ (by decide) (by decide)
  rw [e6]
  exact ⟨rfl, H7, xK9, xN8⟩
def own_k (k0 k1 k2 x : Int32) : Int32 := if x = 0 then k0 else if x = 1 then k1 else k2
def own_ix (x : Int32) : Prop := 0 ≤ x.toInt ∧ x.toInt < 3
theorem own_ix3 {x : Int32} (h : own_ix x) : x = 0 ∨ x = 1 ∨ x = 2 := by
  obtain ⟨h1, h2⟩ := h
  have e0 : (0 : Int32).toInt = 0 := rfl
  have e1 : (1 : Int32).toInt = 1 := rfl
  have e2 : (2 : Int32).toInt = 2 := rfl
  by_cases q0 : x.toInt = 0
  · exact Or.inl (Int32.toInt_inj.mp (by omega))
  · by_cases q1 : x.toInt = 1
    · exact Or.inr (Or.inl (Int32.toInt_inj.mp (by omega)))
    · exact Or.inr (Or.inr (Int32.toInt_inj.mp (by omega)))
theorem own_kI {k0 k1 k2 x : Int32} (h : own_ix x) : own_I k0 k1 k2 x.toNatClampNeg = .int (own_k k0 k1 k2 x) := by
  rcases own_ix3 h with rfl | rfl | rfl <;> rfl
theorem own_pn6 : plainFor (⟨"com/example/nearfield/nearfield/job/RankedReads", "next", "()V"⟩ : MethodName) = true := by first | exact plainFor_of_name (by first | (simp [plainName, overriddenIn, x]; done) | decide +kernel) | decide +kernel
theorem ef_20 (m : MethodId) (q0 : Addr) : entryFrame m #[(.ref q0)] 1 = mkF m 0 #[.val (.ref q0)] [] := by first | (simp [entryFrame, mkF, argsToLocals, Value.category, maxLocals]; done) | rfl
theorem d20_0 : decode prog_98_method_21_code 0 = .ok (.aload_n 0, 1) := by decide +kernel
theorem d20_1 : decode prog_98_method_21_code 1 = .ok (.dup, 1) := by decide +kernel
theorem d20_2 : decode prog_98_method_21_code 2 = .ok (.getfield 110, 3) := by decide +kernel
theorem d20_5 : decode prog_98_method_21_code 5 = .ok (.iconst 1, 1) := by decide +kernel
theorem d20_6 : decode prog_98_method_21_code 6 = .ok (.iadd, 1) := by decide +kernel
theorem d20_7 : decode prog_98_method_21_code 7 = .ok (.putfield 110, 3) := by decide +kernel
theorem own_w_at {Z : State} {a0 : Array Value} (hw : ∀ d ∈ tables_1, d.before a0 Z = true) {h h' : Heap} {n0 : Nat} {ad : Nat → Addr} {v_rn v_mg : Addr} {v_ra v_fa v_fk v_an v_at v_c1 v_c2 v_c3 v_i10 v_i11 v_i12 v_i20 v_i21 v_i22 v_i30 v_i31 v_i32 v_k0 v_k1 v_k2 : Int32} {v_nx v_l10 v_l11 v_l12 v_l20 v_l21 v_l22 v_l30 v_l31 v_l32 : Int64} {v : Int32} (H : own_H Z h n0 ad v_rn v_mg v_ra v_fa v_fk v_an v_at v_nx v_c1 v_c2 v_c3 v_l10 v_l11 v_l12 v_l20 v_l21 v_l22 v_l30 v_l31 v_l32 v_i10 v_i11 v_i12 v_i20 v_i21 v_i22 v_i30 v_i31 v_i32 v_k0 v_k1 v_k2) (W : Wr h h' (ad 0) (Jvm.RoadKit.slotOf Z "com/example/nearfield/nearfield/job/RankedReads" "at" "I") (.int v)) : own_H Z h' n0 ad v_rn v_mg v_ra v_fa v_fk v_an v v_nx v_c1 v_c2 v_c3 v_l10 v_l11 v_l12 v_l20 v_l21 v_l22 v_l30 v_l31 v_l32 v_i10 v_i11 v_i12 v_i20 v_i21 v_i22 v_i30 v_i31 v_i32 v_k0 v_k1 v_k2 := by
  obtain ⟨hinj, hge, E0, E1, E2, E3, r_run, r_merged, r_fresh, r_serverBits, r_freeBits, r_serverMask, r_mostFree, r_mostSpend, r_runAt, r_freshAt, r_freshKept, r_ranking, r_rankedAnew, r_at, r_next, u1_rank, u1_ranking, u1_count, u2_rank, u2_ranking, u2_count, u3_rank, u3_ranking, u3_count, a_l1, a_l2, a_l3, a_i1, a_i2, a_i3, a_k⟩ := H
  exact ⟨hinj, hge, E0.wr W, E1.wr W, E2.wr W, E3.wr W, r_run.other W (Or.inr (slot_ne (Or.inl (ow hw 25 rfl)) (Or.inl (ow hw 125 rfl)) (by decide) (t := (.object "com/example/nearfield/nearfield/job/RankedReads$Run")) (t' := .int) (by decide) (by decide))), r_merged.other W (Or.inr (slot_ne (Or.inl (ow hw 27 rfl)) (Or.inl (ow hw 125 rfl)) (by decide) (t := (.object "com/example/nearfield/nearfield/job/RankedReads$Run")) (t' := .int) (by decide) (by decide))), r_fresh.other W (Or.inr (slot_ne (Or.inr (ow hw 29 rfl)) (Or.inl (ow hw 125 rfl)) (by decide) (t := (.object "com/example/nearfield/nearfield/job/RankedReads$Run")) (t' := .int) (by decide) (by decide))), r_serverBits.other W (Or.inr (slot_ne (Or.inr (ow hw 40 rfl)) (Or.inl (ow hw 125 rfl)) (by decide) (t := .int) (t' := .int) (by decide) (by decide))), r_freeBits.other W (Or.inr (slot_ne (Or.inr (ow hw 42 rfl)) (Or.inl (ow hw 125 rfl)) (by decide) (t := .int) (t' := .int) (by decide) (by decide))), r_serverMask.other W (Or.inr (slot_ne (Or.inr (ow hw 44 rfl)) (Or.inl (ow hw 125 rfl)) (by decide) (t := .long) (t' := .int) (by decide) (by decide))), r_mostFree.other W (Or.inr (slot_ne (Or.inr (ow hw 46 rfl)) (Or.inl (ow hw 125 rfl)) (by decide) (t := .long) (t' := .int) (by decide) (by decide))), r_mostSpend.other W (Or.inr (slot_ne (Or.inr (ow hw 48 rfl)) (Or.inl (ow hw 125 rfl)) (by decide) (t := .long) (t' := .int) (by decide) (by decide))), r_runAt.other W (Or.inr (slot_ne (Or.inl (ow hw 117 rfl)) (Or.inl (ow hw 125 rfl)) (by decide) (t := .int) (t' := .int) (by decide) (by decide))), r_freshAt.other W (Or.inr (slot_ne (Or.inl (ow hw 82 rfl)) (Or.inl (ow hw 125 rfl)) (by decide) (t := .int) (t' := .int) (by decide) (by decide))), r_freshKept.other W (Or.inr (slot_ne (Or.inl (ow hw 80 rfl)) (Or.inl (ow hw 125 rfl)) (by decide) (t := .int) (t' := .int) (by decide) (by decide))), r_ranking.other W (Or.inr (slot_ne (Or.inr (ow hw 50 rfl)) (Or.inl (ow hw 125 rfl)) (by decide) (t := (.array .int)) (t' := .int) (by decide) (by decide))), r_rankedAnew.other W (Or.inr (slot_ne (Or.inl (ow hw 123 rfl)) (Or.inl (ow hw 125 rfl)) (by decide) (t := .boolean) (t' := .int) (by decide) (by decide))), r_at.same W, r_next.other W (Or.inr (slot_ne (Or.inl (ow hw 132 rfl)) (Or.inl (ow hw 125 rfl)) (by decide) (t := .long) (t' := .int) (by decide) (by decide))), u1_rank.other W (Or.inl (on hinj 1 0 rfl)), u1_ranking.other W (Or.inl (on hinj 1 0 rfl)), u1_count.other W (Or.inl (on hinj 1 0 rfl)), u2_rank.other W (Or.inl (on hinj 2 0 rfl)), u2_ranking.other W (Or.inl (on hinj 2 0 rfl)), u2_count.other W (Or.inl (on hinj 2 0 rfl)), u3_rank.other W (Or.inl (on hinj 3 0 rfl)), u3_ranking.other W (Or.inl (on hinj 3 0 rfl)), u3_count.other W (Or.inl (on hinj 3 0 rfl)), a_l1.other W (on hinj 4 0 rfl), a_l2.other W (on hinj 5 0 rfl), a_l3.other W (on hinj 6 0 rfl), a_i1.other W (on hinj 7 0 rfl), a_i2.other W (on hinj 8 0 rfl), a_i3.other W (on hinj 9 0 rfl), a_k.other W (on hinj 10 0 rfl)⟩
theorem d20_10 : decode prog_98_method_21_code 10 = .ok (.aload_n 0, 1) := by decide +kernel
theorem d20_11 : decode prog_98_method_21_code 11 = .ok (.getfield 110, 3) := by decide +kernel
theorem d20_14 : decode prog_98_method_21_code 14 = .ok (.aload_n 0, 1) := by decide +kernel
theorem d20_15 : decode prog_98_method_21_code 15 = .ok (.getfield 10, 3) := by decide +kernel
theorem d20_18 : decode prog_98_method_21_code 18 = .ok (.getfield 78, 3) := by decide +kernel
theorem d20_21 : decode prog_98_method_21_code 21 = .ok (.if_icmp .ge 54, 3) := by decide +kernel
theorem d20_24 : decode prog_98_method_21_code 24 = .ok (.aload_n 0, 1) := by decide +kernel
theorem d20_25 : decode prog_98_method_21_code 25 = .ok (.getfield 10, 3) := by decide +kernel
theorem d20_28 : decode prog_98_method_21_code 28 = .ok (.getfield 116, 3) := by decide +kernel
theorem d20_31 : decode prog_98_method_21_code 31 = .ok (.aload_n 0, 1) := by decide +kernel
theorem d20_32 : decode prog_98_method_21_code 32 = .ok (.getfield 110, 3) := by decide +kernel
theorem d20_35 : decode prog_98_method_21_code 35 = .ok (.iaload, 1) := by decide +kernel
theorem d20_36 : decode prog_98_method_21_code 36 = .ok (.aload_n 0, 1) := by decide +kernel
theorem d20_37 : decode prog_98_method_21_code 37 = .ok (.getfield 53, 3) := by decide +kernel
theorem d20_40 : decode prog_98_method_21_code 40 = .ok (.aload_n 0, 1) := by decide +kernel
theorem d20_41 : decode prog_98_method_21_code 41 = .ok (.getfield 10, 3) := by decide +kernel
theorem d20_44 : decode prog_98_method_21_code 44 = .ok (.getfield 90, 3) := by decide +kernel
theorem d20_47 : decode prog_98_method_21_code 47 = .ok (.aload_n 0, 1) := by decide +kernel
theorem d20_48 : decode prog_98_method_21_code 48 = .ok (.getfield 110, 3) := by decide +kernel
theorem d20_51 : decode prog_98_method_21_code 51 = .ok (.laload, 1) := by decide +kernel
theorem d20_52 : decode prog_98_method_21_code 52 = .ok (.aload_n 0, 1) := by decide +kernel
theorem d20_53 : decode prog_98_method_21_code 53 = .ok (.getfield 43, 3) := by decide +kernel
theorem d20_56 : decode prog_98_method_21_code 56 = .ok (.land, 1) := by decide +kernel
theorem d20_57 : decode prog_98_method_21_code 57 = .ok (.l2i, 1) := by decide +kernel
theorem d20_58 : decode prog_98_method_21_code 58 = .ok (.iaload, 1) := by decide +kernel
theorem d20_59 : decode prog_98_method_21_code 59 = .ok (.if_icmp .eq 16, 3) := by decide +kernel
theorem d20_75 : decode prog_98_method_21_code 75 = .ok (.aload_n 0, 1) := by decide +kernel
theorem d20_76 : decode prog_98_method_21_code 76 = .ok (.getfield 110, 3) := by decide +kernel
theorem d20_79 : decode prog_98_method_21_code 79 = .ok (.aload_n 0, 1) := by decide +kernel
theorem d20_80 : decode prog_98_method_21_code 80 = .ok (.getfield 10, 3) := by decide +kernel
theorem d20_83 : decode prog_98_method_21_code 83 = .ok (.getfield 78, 3) := by decide +kernel
theorem d20_86 : decode prog_98_method_21_code 86 = .ok (.if_icmp .ge 19, 3) := by decide +kernel
theorem d20_89 : decode prog_98_method_21_code 89 = .ok (.aload_n 0, 1) := by decide +kernel
theorem d20_90 : decode prog_98_method_21_code 90 = .ok (.aload_n 0, 1) := by decide +kernel
theorem d20_91 : decode prog_98_method_21_code 91 = .ok (.getfield 10, 3) := by decide +kernel
theorem d20_94 : decode prog_98_method_21_code 94 = .ok (.getfield 90, 3) := by decide +kernel
theorem d20_97 : decode prog_98_method_21_code 97 = .ok (.aload_n 0, 1) := by decide +kernel
theorem d20_98 : decode prog_98_method_21_code 98 = .ok (.getfield 110, 3) := by decide +kernel
theorem d20_101 : decode prog_98_method_21_code 101 = .ok (.laload, 1) := by decide +kernel
theorem d20_102 : decode prog_98_method_21_code 102 = .ok (.putfield 121, 3) := by decide +kernel
theorem own_w_nx {Z : State} {a0 : Array Value} (hw : ∀ d ∈ tables_1, d.before a0 Z = true) {h h' : Heap} {n0 : Nat} {ad : Nat → Addr} {v_rn v_mg : Addr} {v_ra v_fa v_fk v_an v_at v_c1 v_c2 v_c3 v_i10 v_i11 v_i12 v_i20 v_i21 v_i22 v_i30 v_i31 v_i32 v_k0 v_k1 v_k2 : Int32} {v_nx v_l10 v_l11 v_l12 v_l20 v_l21 v_l22 v_l30 v_l31 v_l32 : Int64} {v : Int64} (H : own_H Z h n0 ad v_rn v_mg v_ra v_fa v_fk v_an v_at v_nx v_c1 v_c2 v_c3 v_l10 v_l11 v_l12 v_l20 v_l21 v_l22 v_l30 v_l31 v_l32 v_i10 v_i11 v_i12 v_i20 v_i21 v_i22 v_i30 v_i31 v_i32 v_k0 v_k1 v_k2) (W : Wr h h' (ad 0) (Jvm.RoadKit.slotOf Z "com/example/nearfield/nearfield/job/RankedReads" "next" "J") (.long v)) : own_H Z h' n0 ad v_rn v_mg v_ra v_fa v_fk v_an v_at v v_c1 v_c2 v_c3 v_l10 v_l11 v_l12 v_l20 v_l21 v_l22 v_l30 v_l31 v_l32 v_i10 v_i11 v_i12 v_i20 v_i21 v_i22 v_i30 v_i31 v_i32 v_k0 v_k1 v_k2 := by
  obtain ⟨hinj, hge, E0, E1, E2, E3, r_run, r_merged, r_fresh, r_serverBits, r_freeBits, r_serverMask, r_mostFree, r_mostSpend, r_runAt, r_freshAt, r_freshKept, r_ranking, r_rankedAnew, r_at, r_next, u1_rank, u1_ranking, u1_count, u2_rank, u2_ranking, u2_count, u3_rank, u3_ranking, u3_count, a_l1, a_l2, a_l3, a_i1, a_i2, a_i3, a_k⟩ := H
  exact ⟨hinj, hge, E0.wr W, E1.wr W, E2.wr W, E3.wr W, r_run.other W (Or.inr (slot_ne (Or.inl (ow hw 25 rfl)) (Or.inl (ow hw 132 rfl)) (by decide) (t := (.object "com/example/nearfield/nearfield/job/RankedReads$Run")) (t' := .long) (by decide) (by decide))), r_merged.other W (Or.inr (slot_ne (Or.inl (ow hw 27 rfl)) (Or.inl (ow hw 132 rfl)) (by decide) (t := (.object "com/example/nearfield/nearfield/job/RankedReads$Run")) (t' := .long) (by decide) (by decide))), r_fresh.other W (Or.inr (slot_ne (Or.inr (ow hw 29 rfl)) (Or.inl (ow hw 132 rfl)) (by decide) (t := (.object "com/example/nearfield/nearfield/job/RankedReads$Run")) (t' := .long) (by decide) (by decide))), r_serverBits.other W (Or.inr (slot_ne (Or.inr (ow hw 40 rfl)) (Or.inl (ow hw 132 rfl)) (by decide) (t := .int) (t' := .long) (by decide) (by decide))), r_freeBits.other W (Or.inr (slot_ne (Or.inr (ow hw 42 rfl)) (Or.inl (ow hw 132 rfl)) (by decide) (t := .int) (t' := .long) (by decide) (by decide))), r_serverMask.other W (Or.inr (slot_ne (Or.inr (ow hw 44 rfl)) (Or.inl (ow hw 132 rfl)) (by decide) (t := .long) (t' := .long) (by decide) (by decide))), r_mostFree.other W (Or.inr (slot_ne (Or.inr (ow hw 46 rfl)) (Or.inl (ow hw 132 rfl)) (by decide) (t := .long) (t' := .long) (by decide) (by decide))), r_mostSpend.other W (Or.inr (slot_ne (Or.inr (ow hw 48 rfl)) (Or.inl (ow hw 132 rfl)) (by decide) (t := .long) (t' := .long) (by decide) (by decide))), r_runAt.other W (Or.inr (slot_ne (Or.inl (ow hw 117 rfl)) (Or.inl (ow hw 132 rfl)) (by decide) (t := .int) (t' := .long) (by decide) (by decide))), r_freshAt.other W (Or.inr (slot_ne (Or.inl (ow hw 82 rfl)) (Or.inl (ow hw 132 rfl)) (by decide) (t := .int) (t' := .long) (by decide) (by decide))), r_freshKept.other W (Or.inr (slot_ne (Or.inl (ow hw 80 rfl)) (Or.inl (ow hw 132 rfl)) (by decide) (t := .int) (t' := .long) (by decide) (by decide))), r_ranking.other W (Or.inr (slot_ne (Or.inr (ow hw 50 rfl)) (Or.inl (ow hw 132 rfl)) (by decide) (t := (.array .int)) (t' := .long) (by decide) (by decide))), r_rankedAnew.other W (Or.inr (slot_ne (Or.inl (ow hw 123 rfl)) (Or.inl (ow hw 132 rfl)) (by decide) (t := .boolean) (t' := .long) (by decide) (by decide))), r_at.other W (Or.inr (slot_ne (Or.inl (ow hw 125 rfl)) (Or.inl (ow hw 132 rfl)) (by decide) (t := .int) (t' := .long) (by decide) (by decide))), r_next.same W, u1_rank.other W (Or.inl (on hinj 1 0 rfl)), u1_ranking.other W (Or.inl (on hinj 1 0 rfl)), u1_count.other W (Or.inl (on hinj 1 0 rfl)), u2_rank.other W (Or.inl (on hinj 2 0 rfl)), u2_ranking.other W (Or.inl (on hinj 2 0 rfl)), u2_count.other W (Or.inl (on hinj 2 0 rfl)), u3_rank.other W (Or.inl (on hinj 3 0 rfl)), u3_ranking.other W (Or.inl (on hinj 3 0 rfl)), u3_count.other W (Or.inl (on hinj 3 0 rfl)), a_l1.other W (on hinj 4 0 rfl), a_l2.other W (on hinj 5 0 rfl), a_l3.other W (on hinj 6 0 rfl), a_i1.other W (on hinj 7 0 rfl), a_i2.other W (on hinj 8 0 rfl), a_i3.other W (on hinj 9 0 rfl), a_k.other W (on hinj 10 0 rfl)⟩
theorem d20_105 : decode prog_98_method_21_code 105 = .ok (.return_, 1) := by decide +kernel
set_option maxRecDepth 65536 in
set_option maxHeartbeats 40000000 in
theorem own_c20_m (l : Launch) (Z : State) (a0 : Array Value) (hw : ∀ d ∈ tables_1, d.before a0 Z = true) (h0 : Heap) (n0 : Nat) (ad : Nat → Addr) (v_mg : Addr) (v_ra : Int32) (v_fa : Int32) (v_fk : Int32) (v_an : Int32) (v_nx : Int64) (v_c1 : Int32) (v_c3 : Int32) (v_l10 : Int64) (v_l11 : Int64) (v_l12 : Int64) (v_l20 : Int64) (v_l21 : Int64) (v_l22 : Int64) (v_l30 : Int64) (v_l31 : Int64) (v_l32 : Int64) (v_i10 : Int32) (v_i11 : Int32) (v_i12 : Int32) (v_i30 : Int32) (v_i31 : Int32) (v_i32 : Int32) (v_k0 : Int32) (v_k1 : Int32) (v_k2 : Int32) (g0 : own_ix ((v_l20 &&& (3 : Int64)).toInt32)) (hk0 : (own_k v_k0 v_k1 v_k2 ((v_l20 &&& (3 : Int64)).toInt32)) = 0) (H : own_H Z h0 n0 ad (ad 2) v_mg v_ra v_fa v_fk v_an (-1 : Int32) v_nx v_c1 (3 : Int32) v_c3 v_l10 v_l11 v_l12 v_l20 v_l21 v_l22 v_l30 v_l31 v_l32 v_i10 v_i11 v_i12 (0 : Int32) (0 : Int32) (0 : Int32) v_i30 v_i31 v_i32 v_k0 v_k1 v_k2) :
    Con l Z (⟨"com/example/nearfield/nearfield/job/RankedReads", "next", "()V"⟩ : MethodName) prog_98_method_21_code 1 none [] ({ frames := 0, cells := 0, slots := 0, locals := 0 } : Room) 0 0 #[(.ref (ad 0))] h0 (fun r h L => r = none ∧ own_H Z h n0 ad (ad 2) v_mg v_ra v_fa v_fk v_an (0 : Int32) v_l20 v_c1 (3 : Int32) v_c3 v_l10 v_l11 v_l12 v_l20 v_l21 v_l22 v_l30 v_l31 v_l32 v_i10 v_i11 v_i12 (0 : Int32) (0 : Int32) (0 : Int32) v_i30 v_i31 v_i32 v_k0 v_k1 v_k2 ∧ Keep h0 h [ad 0] ∧ Fr n0 L) := by
  refine Con.of own_pn6 ?_
  intro pg ev s_ m bl mt cd s₁ hx hby hml hown hnm hret hlk hZ X0 e0
  rw [ef_20]
  show Gd _ _ _ _ (s₁.setTop (mkF m 0 #[.val (.ref (ad 0))] []))
  have N0 := Fr.nil n0
  have K0 := Keep.refl h0 [(ad 0)]
  refine Gd.go (fun _ w_k => XS.aloadN X0.here hx rfl (hb hby d20_0) rfl rfl (XS.dup X0.here hx rfl (hb hby d20_1) rfl rfl w_k)) ?_
  show Gd _ _ _ _ (s₁.setTop (mkF m 2 #[.val (.ref (ad 0))] [(.ref (ad 0)), (.ref (ad 0))]))
  obtain ⟨T1, X1, e1, st1⟩ := getF X0 hx hZ hown (host := "") (Or.inl (ow hw 124 rfl)) Via.refl e0 H.2.2.2.2.2.2.2.2.2.2.2.2.2.2.2.2.2.2.2.1 (g := (mkF m 2 #[.val (.ref (ad 0))] [(.ref (ad 0)), (.ref (ad 0))])) rfl rfl (hb hby d20_2)
  refine Gd.go (fun _ w_k => st1 _ (XS.iconst X1.here hx rfl (hb hby d20_5) (XS.iadd X1.here hx rfl (hb hby d20_6) rfl w_k))) ?_
  show Gd _ _ _ _ (T1.setTop (mkF m 7 #[.val (.ref (ad 0))] [(.int ((-1 : Int32) + (1 : Int32))), (.ref (ad 0))]))
  rw [show ((-1 : Int32) + (1 : Int32)) = (0 : Int32) from by decide]
  show Gd _ _ _ _ (T1.setTop (mkF m 7 #[.val (.ref (ad 0))] [(.int (0 : Int32)), (.ref (ad 0))]))
  obtain ⟨T2, h2, X2, e2, W2, st2⟩ := putF X1 hx hZ hown (host := "") (Or.inl (ow hw 124 rfl)) Via.refl e1 H.2.2.2.2.2.2.2.2.2.2.2.2.2.2.2.2.2.2.2.1 H.2.2.1 (Or.inl (ow hw 125 rfl)) (ow hw 3 rfl) (ty := .int) (by decide) rfl rfl (g := (mkF m 7 #[.val (.ref (ad 0))] [(.int (0 : Int32)), (.ref (ad 0))])) rfl rfl (hb hby d20_7)
  refine Gd.go (fun _ w_k => st2 _ w_k) ?_
  have H3 := own_w_at hw H W2
  have xN4 := Fr.snoc X2 N0 (H.2.1 0 (by decide))
  have xK5 := Keep.wr K0 W2 (Or.inl (by simp))
  show Gd _ _ _ _ (T2.setTop (mkF m 10 #[.val (.ref (ad 0))] []))
  refine Gd.go (fun _ w_k => XS.aloadN X2.here hx rfl (hb hby d20_10) rfl rfl w_k) ?_
  show Gd _ _ _ _ (T2.setTop (mkF m 11 #[.val (.ref (ad 0))] [(.ref (ad 0))]))
  obtain ⟨T6, X6, e6, st6⟩ := getF X2 hx hZ hown (host := "") (Or.inl (ow hw 124 rfl)) Via.refl e2 H3.2.2.2.2.2.2.2.2.2.2.2.2.2.2.2.2.2.2.2.1 (g := (mkF m 11 #[.val (.ref (ad 0))] [(.ref (ad 0))])) rfl rfl (hb hby d20_11)
  refine Gd.go (fun _ w_k => st6 _ (XS.aloadN X6.here hx rfl (hb hby d20_14) rfl rfl w_k)) ?_
  show Gd _ _ _ _ (T6.setTop (mkF m 15 #[.val (.ref (ad 0))] [(.ref (ad 0)), (.int (0 : Int32))]))
  obtain ⟨T7, X7, e7, st7⟩ := getF X6 hx hZ hown (host := "") (Or.inl (ow hw 24 rfl)) Via.refl e6 H3.2.2.2.2.2.2.1 (g := (mkF m 15 #[.val (.ref (ad 0))] [(.ref (ad 0)), (.int (0 : Int32))])) rfl rfl (hb hby d20_15)
  refine Gd.go (fun _ w_k => st7 _ (own_getR X7 hx hZ hown (ow hw 78 rfl) e7 H3.2.2.2.2.2.2.2.2.2.2.2.2.2.2.2.2.2.2.2.2.2.2.2.2.2.2.1 (g := (mkF m 18 #[.val (.ref (ad 0))] [(.ref (ad 2)), (.int (0 : Int32))])) rfl rfl (hb hby d20_18) _ (XS.icmpNo X7.here hx rfl (hb hby d20_21) rfl (tlt (by decide)).2.1 w_k))) ?_
  show Gd _ _ _ _ (T7.setTop (mkF m 24 #[.val (.ref (ad 0))] []))
  refine Gd.go (fun _ w_k => XS.aloadN X7.here hx rfl (hb hby d20_24) rfl rfl w_k) ?_
  show Gd _ _ _ _ (T7.setTop (mkF m 25 #[.val (.ref (ad 0))] [(.ref (ad 0))]))
  obtain ⟨T8, X8, e8, st8⟩ := getF X7 hx hZ hown (host := "") (Or.inl (ow hw 24 rfl)) Via.refl e7 H3.2.2.2.2.2.2.1 (g := (mkF m 25 #[.val (.ref (ad 0))] [(.ref (ad 0))])) rfl rfl (hb hby d20_25)
  refine Gd.go (fun _ w_k => st8 _ (own_getR X8 hx hZ hown (ow hw 87 rfl) e8 H3.2.2.2.2.2.2.2.2.2.2.2.2.2.2.2.2.2.2.2.2.2.2.2.2.2.1 (g := (mkF m 28 #[.val (.ref (ad 0))] [(.ref (ad 2))])) rfl rfl (hb hby d20_28) _ (XS.aloadN X8.here hx rfl (hb hby d20_31) rfl rfl w_k))) ?_
  show Gd _ _ _ _ (T8.setTop (mkF m 32 #[.val (.ref (ad 0))] [(.ref (ad 0)), (.ref (ad 8))]))
  obtain ⟨T9, X9, e9, st9⟩ := getF X8 hx hZ hown (host := "") (Or.inl (ow hw 124 rfl)) Via.refl e8 H3.2.2.2.2.2.2.2.2.2.2.2.2.2.2.2.2.2.2.2.1 (g := (mkF m 32 #[.val (.ref (ad 0))] [(.ref (ad 0)), (.ref (ad 8))])) rfl rfl (hb hby d20_32)
  refine Gd.go (fun _ w_k => st9 _ (own_ldI X9 hx hZ e9 H3.2.2.2.2.2.2.2.2.2.2.2.2.2.2.2.2.2.2.2.2.2.2.2.2.2.2.2.2.2.2.2.2.2.2.1 (j := (0 : Int32)) (by decide) (by decide) (v := (.int (0 : Int32))) rfl (g := (mkF m 35 #[.val (.ref (ad 0))] [(.int (0 : Int32)), (.ref (ad 8))])) rfl rfl (hb hby d20_35) _ (XS.aloadN X9.here hx rfl (hb hby d20_36) rfl rfl w_k))) ?_
  show Gd _ _ _ _ (T9.setTop (mkF m 37 #[.val (.ref (ad 0))] [(.ref (ad 0)), (.int (0 : Int32))]))
  obtain ⟨T10, X10, e10, st10⟩ := getF X9 hx hZ hown (host := "") (Or.inl (ow hw 49 rfl)) Via.refl e9 H3.2.2.2.2.2.2.2.2.2.2.2.2.2.2.2.2.2.1 (g := (mkF m 37 #[.val (.ref (ad 0))] [(.ref (ad 0)), (.int (0 : Int32))])) rfl rfl (hb hby d20_37)
  refine Gd.go (fun _ w_k => st10 _ (XS.aloadN X10.here hx rfl (hb hby d20_40) rfl rfl w_k)) ?_
  show Gd _ _ _ _ (T10.setTop (mkF m 41 #[.val (.ref (ad 0))] [(.ref (ad 0)), (.ref (ad 10)), (.int (0 : Int32))]))
  obtain ⟨T11, X11, e11, st11⟩ := getF X10 hx hZ hown (host := "") (Or.inl (ow hw 24 rfl)) Via.refl e10 H3.2.2.2.2.2.2.1 (g := (mkF m 41 #[.val (.ref (ad 0))] [(.ref (ad 0)), (.ref (ad 10)), (.int (0 : Int32))])) rfl rfl (hb hby d20_41)
  refine Gd.go (fun _ w_k => st11 _ (own_getR X11 hx hZ hown (ow hw 88 rfl) e11 H3.2.2.2.2.2.2.2.2.2.2.2.2.2.2.2.2.2.2.2.2.2.2.2.2.1 (g := (mkF m 44 #[.val (.ref (ad 0))] [(.ref (ad 2)), (.ref (ad 10)), (.int (0 : Int32))])) rfl rfl (hb hby d20_44) _ (XS.aloadN X11.here hx rfl (hb hby d20_47) rfl rfl w_k))) ?_
  show Gd _ _ _ _ (T11.setTop (mkF m 48 #[.val (.ref (ad 0))] [(.ref (ad 0)), (.ref (ad 5)), (.ref (ad 10)), (.int (0 : Int32))]))
  obtain ⟨T12, X12, e12, st12⟩ := getF X11 hx hZ hown (host := "") (Or.inl (ow hw 124 rfl)) Via.refl e11 H3.2.2.2.2.2.2.2.2.2.2.2.2.2.2.2.2.2.2.2.1 (g := (mkF m 48 #[.val (.ref (ad 0))] [(.ref (ad 0)), (.ref (ad 5)), (.ref (ad 10)), (.int (0 : Int32))])) rfl rfl (hb hby d20_48)
  refine Gd.go (fun _ w_k => st12 _ (own_ldJ X12 hx hZ e12 H3.2.2.2.2.2.2.2.2.2.2.2.2.2.2.2.2.2.2.2.2.2.2.2.2.2.2.2.2.2.2.2.1 (j := (0 : Int32)) (by decide) (by decide) (v := (.long v_l20)) rfl (g := (mkF m 51 #[.val (.ref (ad 0))] [(.int (0 : Int32)), (.ref (ad 5)), (.ref (ad 10)), (.int (0 : Int32))])) rfl rfl (hb hby d20_51) _ (XS.aloadN X12.here hx rfl (hb hby d20_52) rfl rfl w_k))) ?_
  show Gd _ _ _ _ (T12.setTop (mkF m 53 #[.val (.ref (ad 0))] [(.ref (ad 0)), (.long v_l20), (.ref (ad 10)), (.int (0 : Int32))]))
  obtain ⟨T13, X13, e13, st13⟩ := getF X12 hx hZ hown (host := "") (Or.inl (ow hw 43 rfl)) Via.refl e12 H3.2.2.2.2.2.2.2.2.2.2.2.1 (g := (mkF m 53 #[.val (.ref (ad 0))] [(.ref (ad 0)), (.long v_l20), (.ref (ad 10)), (.int (0 : Int32))])) rfl rfl (hb hby d20_53)
  refine Gd.go (fun _ w_k => st13 _ (XS.land X13.here hx rfl (hb hby d20_56) rfl (XS.l2i X13.here hx rfl (hb hby d20_57) rfl (own_ldI X13 hx hZ e13 H3.2.2.2.2.2.2.2.2.2.2.2.2.2.2.2.2.2.2.2.2.2.2.2.2.2.2.2.2.2.2.2.2.2.2.2.2 (j := ((v_l20 &&& (3 : Int64)).toInt32)) g0.1 g0.2 (v := (.int (own_k v_k0 v_k1 v_k2 ((v_l20 &&& (3 : Int64)).toInt32)))) (own_kI g0) (g := (mkF m 58 #[.val (.ref (ad 0))] [(.int ((v_l20 &&& (3 : Int64)).toInt32)), (.ref (ad 10)), (.int (0 : Int32))])) rfl rfl (hb hby d20_58) _ (XS.icmpYes X13.here hx rfl (pc0 := 59) (pc' := 75) rfl (hb hby d20_59) rfl (teq hk0.symm).1 (by decide) (by decide) w_k))))) ?_
  show Gd _ _ _ _ (T13.setTop (mkF m 75 #[.val (.ref (ad 0))] []))
  refine Gd.go (fun _ w_k => XS.aloadN X13.here hx rfl (hb hby d20_75) rfl rfl w_k) ?_
  show Gd _ _ _ _ (T13.setTop (mkF m 76 #[.val (.ref (ad 0))] [(.ref (ad 0))]))
  obtain ⟨T14, X14, e14, st14⟩ := getF X13 hx hZ hown (host := "") (Or.inl (ow hw 124 rfl)) Via.refl e13 H3.2.2.2.2.2.2.2.2.2.2.2.2.2.2.2.2.2.2.2.1 (g := (mkF m 76 #[.val (.ref (ad 0))] [(.ref (ad 0))])) rfl rfl (hb hby d20_76)
  refine Gd.go (fun _ w_k => st14 _ (XS.aloadN X14.here hx rfl (hb hby d20_79) rfl rfl w_k)) ?_
  show Gd _ _ _ _ (T14.setTop (mkF m 80 #[.val (.ref (ad 0))] [(.ref (ad 0)), (.int (0 : Int32))]))
  obtain ⟨T15, X15, e15, st15⟩ := getF X14 hx hZ hown (host := "") (Or.inl (ow hw 24 rfl)) Via.refl e14 H3.2.2.2.2.2.2.1 (g := (mkF m 80 #[.val (.ref (ad 0))] [(.ref (ad 0)), (.int (0 : Int32))])) rfl rfl (hb hby d20_80)
  refine Gd.go (fun _ w_k => st15 _ (own_getR X15 hx hZ hown (ow hw 78 rfl) e15 H3.2.2.2.2.2.2.2.2.2.2.2.2.2.2.2.2.2.2.2.2.2.2.2.2.2.2.1 (g := (mkF m 83 #[.val (.ref (ad 0))] [(.ref (ad 2)), (.int (0 : Int32))])) rfl rfl (hb hby d20_83) _ (XS.icmpNo X15.here hx rfl (hb hby d20_86) rfl (tlt (by decide)).2.1 w_k))) ?_
  show Gd _ _ _ _ (T15.setTop (mkF m 89 #[.val (.ref (ad 0))] []))
  refine Gd.go (fun _ w_k => XS.aloadN X15.here hx rfl (hb hby d20_89) rfl rfl (XS.aloadN X15.here hx rfl (hb hby d20_90) rfl rfl w_k)) ?_
  show Gd _ _ _ _ (T15.setTop (mkF m 91 #[.val (.ref (ad 0))] [(.ref (ad 0)), (.ref (ad 0))]))
  obtain ⟨T16, X16, e16, st16⟩ := getF X15 hx hZ hown (host := "") (Or.inl (ow hw 24 rfl)) Via.refl e15 H3.2.2.2.2.2.2.1 (g := (mkF m 91 #[.val (.ref (ad 0))] [(.ref (ad 0)), (.ref (ad 0))])) rfl rfl (hb hby d20_91)
  refine Gd.go (fun _ w_k => st16 _ (own_getR X16 hx hZ hown (ow hw 88 rfl) e16 H3.2.2.2.2.2.2.2.2.2.2.2.2.2.2.2.2.2.2.2.2.2.2.2.2.1 (g := (mkF m 94 #[.val (.ref (ad 0))] [(.ref (ad 2)), (.ref (ad 0))])) rfl rfl (hb hby d20_94) _ (XS.aloadN X16.here hx rfl (hb hby d20_97) rfl rfl w_k))) ?_
  show Gd _ _ _ _ (T16.setTop (mkF m 98 #[.val (.ref (ad 0))] [(.ref (ad 0)), (.ref (ad 5)), (.ref (ad 0))]))
  obtain ⟨T17, X17, e17, st17⟩ := getF X16 hx hZ hown (host := "") (Or.inl (ow hw 124 rfl)) Via.refl e16 H3.2.2.2.2.2.2.2.2.2.2.2.2.2.2.2.2.2.2.2.1 (g := (mkF m 98 #[.val (.ref (ad 0))] [(.ref (ad 0)), (.ref (ad 5)), (.ref (ad 0))])) rfl rfl (hb hby d20_98)
  refine Gd.go (fun _ w_k => st17 _ (own_ldJ X17 hx hZ e17 H3.2.2.2.2.2.2.2.2.2.2.2.2.2.2.2.2.2.2.2.2.2.2.2.2.2.2.2.2.2.2.2.1 (j := (0 : Int32)) (by decide) (by decide) (v := (.long v_l20)) rfl (g := (mkF m 101 #[.val (.ref (ad 0))] [(.int (0 : Int32)), (.ref (ad 5)), (.ref (ad 0))])) rfl rfl (hb hby d20_101) _ w_k)) ?_
  show Gd _ _ _ _ (T17.setTop (mkF m 102 #[.val (.ref (ad 0))] [(.long v_l20), (.ref (ad 0))]))
  obtain ⟨T18, h18, X18, e18, W18, st18⟩ := putF X17 hx hZ hown (host := "") (Or.inl (ow hw 131 rfl)) Via.refl e17 H3.2.2.2.2.2.2.2.2.2.2.2.2.2.2.2.2.2.2.2.2.1 H3.2.2.1 (Or.inl (ow hw 132 rfl)) (ow hw 3 rfl) (ty := .long) (by decide) rfl rfl (g := (mkF m 102 #[.val (.ref (ad 0))] [(.long v_l20), (.ref (ad 0))])) rfl rfl (hb hby d20_102)
  refine Gd.go (fun _ w_k => st18 _ w_k) ?_
  have H19 := own_w_nx hw H3 W18
  have xN20 := Fr.snoc X18 xN4 (H.2.1 0 (by decide))
  have xK21 := Keep.wr xK5 W18 (Or.inl (by simp))
  show Gd _ _ _ _ (T18.setTop (mkF m 105 #[.val (.ref (ad 0))] []))
  refine own_retV X18 hx hret hlk (hb hby d20_105) ?_ (by decide) (by decide)
  rw [e18]
  exact ⟨rfl, H19, xK21, xN20⟩
theorem d20_62 : decode prog_98_method_21_code 62 = .ok (.aload_n 0, 1) := by decide +kernel
theorem d20_63 : decode prog_98_method_21_code 63 = .ok (.dup, 1) := by decide +kernel
theorem d20_64 : decode prog_98_method_21_code 64 = .ok (.getfield 110, 3) := by decide +kernel
theorem d20_67 : decode prog_98_method_21_code 67 = .ok (.iconst 1, 1) := by decide +kernel
theorem d20_68 : decode prog_98_method_21_code 68 = .ok (.iadd, 1) := by decide +kernel
theorem d20_69 : decode prog_98_method_21_code 69 = .ok (.putfield 110, 3) := by decide +kernel
theorem d20_72 : decode prog_98_method_21_code 72 = .ok (.goto (-62), 3) := by decide +kernel
set_option maxRecDepth 65536 in
set_option maxHeartbeats 40000000 in
theorem own_c20_0 (l : Launch) (Z : State) (a0 : Array Value) (hw : ∀ d ∈ tables_1, d.before a0 Z = true) (h0 : Heap) (n0 : Nat) (ad : Nat → Addr) (v_mg : Addr) (v_ra : Int32) (v_fa : Int32) (v_fk : Int32) (v_an : Int32) (v_nx : Int64) (v_c1 : Int32) (v_c3 : Int32) (v_l10 : Int64) (v_l11 : Int64) (v_l12 : Int64) (v_l20 : Int64) (v_l21 : Int64) (v_l22 : Int64) (v_l30 : Int64) (v_l31 : Int64) (v_l32 : Int64) (v_i10 : Int32) (v_i11 : Int32) (v_i12 : Int32) (v_i30 : Int32) (v_i31 : Int32) (v_i32 : Int32) (v_k0 : Int32) (v_k1 : Int32) (v_k2 : Int32) (g0 : own_ix ((v_l20 &&& (3 : Int64)).toInt32)) (g1 : own_ix ((v_l21 &&& (3 : Int64)).toInt32)) (g2 : own_ix ((v_l22 &&& (3 : Int64)).toInt32)) (H : own_H Z h0 n0 ad (ad 2) v_mg v_ra v_fa v_fk v_an (0 : Int32) v_nx v_c1 (3 : Int32) v_c3 v_l10 v_l11 v_l12 v_l20 v_l21 v_l22 v_l30 v_l31 v_l32 v_i10 v_i11 v_i12 (0 : Int32) (0 : Int32) (0 : Int32) v_i30 v_i31 v_i32 v_k0 v_k1 v_k2) :
    Con l Z (⟨"com/example/nearfield/nearfield/job/RankedReads", "next", "()V"⟩ : MethodName) prog_98_method_21_code 1 none [] ({ frames := 0, cells := 0, slots := 0, locals := 0 } : Room) 0 0 #[(.ref (ad 0))] h0 (fun r h L => r = none ∧ own_H Z h n0 ad (ad 2) v_mg v_ra v_fa v_fk v_an (if (own_k v_k0 v_k1 v_k2 ((v_l21 &&& (3 : Int64)).toInt32)) = (0 : Int32) then (1 : Int32) else (if (own_k v_k0 v_k1 v_k2 ((v_l22 &&& (3 : Int64)).toInt32)) = (0 : Int32) then (2 : Int32) else (3 : Int32))) (if (own_k v_k0 v_k1 v_k2 ((v_l21 &&& (3 : Int64)).toInt32)) = (0 : Int32) then v_l21 else (if (own_k v_k0 v_k1 v_k2 ((v_l22 &&& (3 : Int64)).toInt32)) = (0 : Int32) then v_l22 else v_nx)) v_c1 (3 : Int32) v_c3 v_l10 v_l11 v_l12 v_l20 v_l21 v_l22 v_l30 v_l31 v_l32 v_i10 v_i11 v_i12 (0 : Int32) (0 : Int32) (0 : Int32) v_i30 v_i31 v_i32 v_k0 v_k1 v_k2 ∧ Keep h0 h [ad 0] ∧ Fr n0 L) := by
  refine Con.of own_pn6 ?_
  intro pg ev s_ m bl mt cd s₁ hx hby hml hown hnm hret hlk hZ X0 e0
  rw [ef_20]
  show Gd _ _ _ _ (s₁.setTop (mkF m 0 #[.val (.ref (ad 0))] []))
  have N0 := Fr.nil n0
  have K0 := Keep.refl h0 [(ad 0)]
  refine Gd.go (fun _ w_k => XS.aloadN X0.here hx rfl (hb hby d20_0) rfl rfl (XS.dup X0.here hx rfl (hb hby d20_1) rfl rfl w_k)) ?_
  show Gd _ _ _ _ (s₁.setTop (mkF m 2 #[.val (.ref (ad 0))] [(.ref (ad 0)), (.ref (ad 0))]))
  obtain ⟨T1, X1, e1, st1⟩ := getF X0 hx hZ hown (host := "") (Or.inl (ow hw 124 rfl)) Via.refl e0 H.2.2.2.2.2.2.2.2.2.2.2.2.2.2.2.2.2.2.2.1 (g := (mkF m 2 #[.val (.ref (ad 0))] [(.ref (ad 0)), (.ref (ad 0))])) rfl rfl (hb hby d20_2)
  refine Gd.go (fun _ w_k => st1 _ (XS.iconst X1.here hx rfl (hb hby d20_5) (XS.iadd X1.here hx rfl (hb hby d20_6) rfl w_k))) ?_
  show Gd _ _ _ _ (T1.setTop (mkF m 7 #[.val (.ref (ad 0))] [(.int ((0 : Int32) + (1 : Int32))), (.ref (ad 0))]))
  rw [show ((0 : Int32) + (1 : Int32)) = (1 : Int32) from by decide]
  show Gd _ _ _ _ (T1.setTop (mkF m 7 #[.val (.ref (ad 0))] [(.int (1 : Int32)), (.ref (ad 0))]))
  obtain ⟨T2, h2, X2, e2, W2, st2⟩ := putF X1 hx hZ hown (host := "") (Or.inl (ow hw 124 rfl)) Via.refl e1 H.2.2.2.2.2.2.2.2.2.2.2.2.2.2.2.2.2.2.2.1 H.2.2.1 (Or.inl (ow hw 125 rfl)) (ow hw 3 rfl) (ty := .int) (by decide) rfl rfl (g := (mkF m 7 #[.val (.ref (ad 0))] [(.int (1 : Int32)), (.ref (ad 0))])) rfl rfl (hb hby d20_7)
  refine Gd.go (fun _ w_k => st2 _ w_k) ?_
  have H3 := own_w_at hw H W2
  have xN4 := Fr.snoc X2 N0 (H.2.1 0 (by decide))
  have xK5 := Keep.wr K0 W2 (Or.inl (by simp))
  show Gd _ _ _ _ (T2.setTop (mkF m 10 #[.val (.ref (ad 0))] []))
  refine Gd.go (fun _ w_k => XS.aloadN X2.here hx rfl (hb hby d20_10) rfl rfl w_k) ?_
  show Gd _ _ _ _ (T2.setTop (mkF m 11 #[.val (.ref (ad 0))] [(.ref (ad 0))]))
  obtain ⟨T6, X6, e6, st6⟩ := getF X2 hx hZ hown (host := "") (Or.inl (ow hw 124 rfl)) Via.refl e2 H3.2.2.2.2.2.2.2.2.2.2.2.2.2.2.2.2.2.2.2.1 (g := (mkF m 11 #[.val (.ref (ad 0))] [(.ref (ad 0))])) rfl rfl (hb hby d20_11)
  refine Gd.go (fun _ w_k => st6 _ (XS.aloadN X6.here hx rfl (hb hby d20_14) rfl rfl w_k)) ?_
  show Gd _ _ _ _ (T6.setTop (mkF m 15 #[.val (.ref (ad 0))] [(.ref (ad 0)), (.int (1 : Int32))]))
  obtain ⟨T7, X7, e7, st7⟩ := getF X6 hx hZ hown (host := "") (Or.inl (ow hw 24 rfl)) Via.refl e6 H3.2.2.2.2.2.2.1 (g := (mkF m 15 #[.val (.ref (ad 0))] [(.ref (ad 0)), (.int (1 : Int32))])) rfl rfl (hb hby d20_15)
  refine Gd.go (fun _ w_k => st7 _ (own_getR X7 hx hZ hown (ow hw 78 rfl) e7 H3.2.2.2.2.2.2.2.2.2.2.2.2.2.2.2.2.2.2.2.2.2.2.2.2.2.2.1 (g := (mkF m 18 #[.val (.ref (ad 0))] [(.ref (ad 2)), (.int (1 : Int32))])) rfl rfl (hb hby d20_18) _ (XS.icmpNo X7.here hx rfl (hb hby d20_21) rfl (tlt (by decide)).2.1 w_k))) ?_
  show Gd _ _ _ _ (T7.setTop (mkF m 24 #[.val (.ref (ad 0))] []))
  refine Gd.go (fun _ w_k => XS.aloadN X7.here hx rfl (hb hby d20_24) rfl rfl w_k) ?_
  show Gd _ _ _ _ (T7.setTop (mkF m 25 #[.val (.ref (ad 0))] [(.ref (ad 0))]))
  obtain ⟨T8, X8, e8, st8⟩ := getF X7 hx hZ hown (host := "") (Or.inl (ow hw 24 rfl)) Via.refl e7 H3.2.2.2.2.2.2.1 (g := (mkF m 25 #[.val (.ref (ad 0))] [(.ref (ad 0))])) rfl rfl (hb hby d20_25)
  refine Gd.go (fun _ w_k => st8 _ (own_getR X8 hx hZ hown (ow hw 87 rfl) e8 H3.2.2.2.2.2.2.2.2.2.2.2.2.2.2.2.2.2.2.2.2.2.2.2.2.2.1 (g := (mkF m 28 #[.val (.ref (ad 0))] [(.ref (ad 2))])) rfl rfl (hb hby d20_28) _ (XS.aloadN X8.here hx rfl (hb hby d20_31) rfl rfl w_k))) ?_
  show Gd _ _ _ _ (T8.setTop (mkF m 32 #[.val (.ref (ad 0))] [(.ref (ad 0)), (.ref (ad 8))]))
  obtain ⟨T9, X9, e9, st9⟩ := getF X8 hx hZ hown (host := "") (Or.inl (ow hw 124 rfl)) Via.refl e8 H3.2.2.2.2.2.2.2.2.2.2.2.2.2.2.2.2.2.2.2.1 (g := (mkF m 32 #[.val (.ref (ad 0))] [(.ref (ad 0)), (.ref (ad 8))])) rfl rfl (hb hby d20_32)
  refine Gd.go (fun _ w_k => st9 _ (own_ldI X9 hx hZ e9 H3.2.2.2.2.2.2.2.2.2.2.2.2.2.2.2.2.2.2.2.2.2.2.2.2.2.2.2.2.2.2.2.2.2.2.1 (j := (1 : Int32)) (by decide) (by decide) (v := (.int (0 : Int32))) rfl (g := (mkF m 35 #[.val (.ref (ad 0))] [(.int (1 : Int32)), (.ref (ad 8))])) rfl rfl (hb hby d20_35) _ (XS.aloadN X9.here hx rfl (hb hby d20_36) rfl rfl w_k))) ?_
  show Gd _ _ _ _ (T9.setTop (mkF m 37 #[.val (.ref (ad 0))] [(.ref (ad 0)), (.int (0 : Int32))]))
  obtain ⟨T10, X10, e10, st10⟩ := getF X9 hx hZ hown (host := "") (Or.inl (ow hw 49 rfl)) Via.refl e9 H3.2.2.2.2.2.2.2.2.2.2.2.2.2.2.2.2.2.1 (g := (mkF m 37 #[.val (.ref (ad 0))] [(.ref (ad 0)), (.int (0 : Int32))])) rfl rfl (hb hby d20_37)
  refine Gd.go (fun _ w_k => st10 _ (XS.aloadN X10.here hx rfl (hb hby d20_40) rfl rfl w_k)) ?_
  show Gd _ _ _ _ (T10.setTop (mkF m 41 #[.val (.ref (ad 0))] [(.ref (ad 0)), (.ref (ad 10)), (.int (0 : Int32))]))
  obtain ⟨T11, X11, e11, st11⟩ := getF X10 hx hZ hown (host := "") (Or.inl (ow hw 24 rfl)) Via.refl e10 H3.2.2.2.2.2.2.1 (g := (mkF m 41 #[.val (.ref (ad 0))] [(.ref (ad 0)), (.ref (ad 10)), (.int (0 : Int32))])) rfl rfl (hb hby d20_41)
  refine Gd.go (fun _ w_k => st11 _ (own_getR X11 hx hZ hown (ow hw 88 rfl) e11 H3.2.2.2.2.2.2.2.2.2.2.2.2.2.2.2.2.2.2.2.2.2.2.2.2.1 (g := (mkF m 44 #[.val (.ref (ad 0))] [(.ref (ad 2)), (.ref (ad 10)), (.int (0 : Int32))])) rfl rfl (hb hby d20_44) _ (XS.aloadN X11.here hx rfl (hb hby d20_47) rfl rfl w_k))) ?_
  show Gd _ _ _ _ (T11.setTop (mkF m 48 #[.val (.ref (ad 0))] [(.ref (ad 0)), (.ref (ad 5)), (.ref (ad 10)), (.int (0 : Int32))]))
  obtain ⟨T12, X12, e12, st12⟩ := getF X11 hx hZ hown (host := "") (Or.inl (ow hw 124 rfl)) Via.refl e11 H3.2.2.2.2.2.2.2.2.2.2.2.2.2.2.2.2.2.2.2.1 (g := (mkF m 48 #[.val (.ref (ad 0))] [(.ref (ad 0)), (.ref (ad 5)), (.ref (ad 10)), (.int (0 : Int32))])) rfl rfl (hb hby d20_48)
  refine Gd.go (fun _ w_k => st12 _ (own_ldJ X12 hx hZ e12 H3.2.2.2.2.2.2.2.2.2.2.2.2.2.2.2.2.2.2.2.2.2.2.2.2.2.2.2.2.2.2.2.1 (j := (1 : Int32)) (by decide) (by decide) (v := (.long v_l21)) rfl (g := (mkF m 51 #[.val (.ref (ad 0))] [(.int (1 : Int32)), (.ref (ad 5)), (.ref (ad 10)), (.int (0 : Int32))])) rfl rfl (hb hby d20_51) _ (XS.aloadN X12.here hx rfl (hb hby d20_52) rfl rfl w_k))) ?_
  show Gd _ _ _ _ (T12.setTop (mkF m 53 #[.val (.ref (ad 0))] [(.ref (ad 0)), (.long v_l21), (.ref (ad 10)), (.int (0 : Int32))]))
  obtain ⟨T13, X13, e13, st13⟩ := getF X12 hx hZ hown (host := "") (Or.inl (ow hw 43 rfl)) Via.refl e12 H3.2.2.2.2.2.2.2.2.2.2.2.1 (g := (mkF m 53 #[.val (.ref (ad 0))] [(.ref (ad 0)), (.long v_l21), (.ref (ad 10)), (.int (0 : Int32))])) rfl rfl (hb hby d20_53)
  refine Gd.go (fun _ w_k => st13 _ (XS.land X13.here hx rfl (hb hby d20_56) rfl (XS.l2i X13.here hx rfl (hb hby d20_57) rfl (own_ldI X13 hx hZ e13 H3.2.2.2.2.2.2.2.2.2.2.2.2.2.2.2.2.2.2.2.2.2.2.2.2.2.2.2.2.2.2.2.2.2.2.2.2 (j := ((v_l21 &&& (3 : Int64)).toInt32)) g1.1 g1.2 (v := (.int (own_k v_k0 v_k1 v_k2 ((v_l21 &&& (3 : Int64)).toInt32)))) (own_kI g1) (g := (mkF m 58 #[.val (.ref (ad 0))] [(.int ((v_l21 &&& (3 : Int64)).toInt32)), (.ref (ad 10)), (.int (0 : Int32))])) rfl rfl (hb hby d20_58) _ w_k)))) ?_
  show Gd _ _ _ _ (T13.setTop (mkF m 59 #[.val (.ref (ad 0))] [(.int (own_k v_k0 v_k1 v_k2 ((v_l21 &&& (3 : Int64)).toInt32))), (.int (0 : Int32))]))
  by_cases hk14 : (own_k v_k0 v_k1 v_k2 ((v_l21 &&& (3 : Int64)).toInt32)) = (0 : Int32)
  · refine Gd.go (fun _ w_k => XS.icmpYes X13.here hx rfl (pc0 := 59) (pc' := 75) rfl (hb hby d20_59) rfl (teq hk14.symm).1 (by decide) (by decide) w_k) ?_
    show Gd _ _ _ _ (T13.setTop (mkF m 75 #[.val (.ref (ad 0))] []))
    refine Gd.go (fun _ w_k => XS.aloadN X13.here hx rfl (hb hby d20_75) rfl rfl w_k) ?_
    show Gd _ _ _ _ (T13.setTop (mkF m 76 #[.val (.ref (ad 0))] [(.ref (ad 0))]))
    obtain ⟨T15, X15, e15, st15⟩ := getF X13 hx hZ hown (host := "") (Or.inl (ow hw 124 rfl)) Via.refl e13 H3.2.2.2.2.2.2.2.2.2.2.2.2.2.2.2.2.2.2.2.1 (g := (mkF m 76 #[.val (.ref (ad 0))] [(.ref (ad 0))])) rfl rfl (hb hby d20_76)
    refine Gd.go (fun _ w_k => st15 _ (XS.aloadN X15.here hx rfl (hb hby d20_79) rfl rfl w_k)) ?_
    show Gd _ _ _ _ (T15.setTop (mkF m 80 #[.val (.ref (ad 0))] [(.ref (ad 0)), (.int (1 : Int32))]))
    obtain ⟨T16, X16, e16, st16⟩ := getF X15 hx hZ hown (host := "") (Or.inl (ow hw 24 rfl)) Via.refl e15 H3.2.2.2.2.2.2.1 (g := (mkF m 80 #[.val (.ref (ad 0))] [(.ref (ad 0)), (.int (1 : Int32))])) rfl rfl (hb hby d20_80)
    refine Gd.go (fun _ w_k => st16 _ (own_getR X16 hx hZ hown (ow hw 78 rfl) e16 H3.2.2.2.2.2.2.2.2.2.2.2.2.2.2.2.2.2.2.2.2.2.2.2.2.2.2.1 (g := (mkF m 83 #[.val (.ref (ad 0))] [(.ref (ad 2)), (.int (1 : Int32))])) rfl rfl (hb hby d20_83) _ (XS.icmpNo X16.here hx rfl (hb hby d20_86) rfl (tlt (by decide)).2.1 w_k))) ?_
    show Gd _ _ _ _ (T16.setTop (mkF m 89 #[.val (.ref (ad 0))] []))
    refine Gd.go (fun _ w_k => XS.aloadN X16.here hx rfl (hb hby d20_89) rfl rfl (XS.aloadN X16.here hx rfl (hb hby d20_90) rfl rfl w_k)) ?_
    show Gd _ _ _ _ (T16.setTop (mkF m 91 #[.val (.ref (ad 0))] [(.ref (ad 0)), (.ref (ad 0))]))
    obtain ⟨T17, X17, e17, st17⟩ := getF X16 hx hZ hown (host := "") (Or.inl (ow hw 24 rfl)) Via.refl e16 H3.2.2.2.2.2.2.1 (g := (mkF m 91 #[.val (.ref (ad 0))] [(.ref (ad 0)), (.ref (ad 0))])) rfl rfl (hb hby d20_91)
    refine Gd.go (fun _ w_k => st17 _ (own_getR X17 hx hZ hown (ow hw 88 rfl) e17 H3.2.2.2.2.2.2.2.2.2.2.2.2.2.2.2.2.2.2.2.2.2.2.2.2.1 (g := (mkF m 94 #[.val (.ref (ad 0))] [(.ref (ad 2)), (.ref (ad 0))])) rfl rfl (hb hby d20_94) _ (XS.aloadN X17.here hx rfl (hb hby d20_97) rfl rfl w_k))) ?_
    show Gd _ _ _ _ (T17.setTop (mkF m 98 #[.val (.ref (ad 0))] [(.ref (ad 0)), (.ref (ad 5)), (.ref (ad 0))]))
    obtain ⟨T18, X18, e18, st18⟩ := getF X17 hx hZ hown (host := "") (Or.inl (ow hw 124 rfl)) Via.refl e17 H3.2.2.2.2.2.2.2.2.2.2.2.2.2.2.2.2.2.2.2.1 (g := (mkF m 98 #[.val (.ref (ad 0))] [(.ref (ad 0)), (.ref (ad 5)), (.ref (ad 0))])) rfl rfl (hb hby d20_98)
    refine Gd.go (fun _ w_k => st18 _ (own_ldJ X18 hx hZ e18 H3.2.2.2.2.2.2.2.2.2.2.2.2.2.2.2.2.2.2.2.2.2.2.2.2.2.2.2.2.2.2.2.1 (j := (1 : Int32)) (by decide) (by decide) (v := (.long v_l21)) rfl (g := (mkF m 101 #[.val (.ref (ad 0))] [(.int (1 : Int32)), (.ref (ad 5)), (.ref (ad 0))])) rfl rfl (hb hby d20_101) _ w_k)) ?_
    show Gd _ _ _ _ (T18.setTop (mkF m 102 #[.val (.ref (ad 0))] [(.long v_l21), (.ref (ad 0))]))
    obtain ⟨T19, h19, X19, e19, W19, st19⟩ := putF X18 hx hZ hown (host := "") (Or.inl (ow hw 131 rfl)) Via.refl e18 H3.2.2.2.2.2.2.2.2.2.2.2.2.2.2.2.2.2.2.2.2.1 H3.2.2.1 (Or.inl (ow hw 132 rfl)) (ow hw 3 rfl) (ty := .long) (by decide) rfl rfl (g := (mkF m 102 #[.val (.ref (ad 0))] [(.long v_l21), (.ref (ad 0))])) rfl rfl (hb hby d20_102)
    refine Gd.go (fun _ w_k => st19 _ w_k) ?_
    have H20 := own_w_nx hw H3 W19
    have xN21 := Fr.snoc X19 xN4 (H.2.1 0 (by decide))
    have xK22 := Keep.wr xK5 W19 (Or.inl (by simp))
    show Gd _ _ _ _ (T19.setTop (mkF m 105 #[.val (.ref (ad 0))] []))
    refine own_retV X19 hx hret hlk (hb hby d20_105) ?_ (by decide) (by decide)
    have q1 : (if (own_k v_k0 v_k1 v_k2 ((v_l21 &&& (3 : Int64)).toInt32)) = (0 : Int32) then (1 : Int32) else (if (own_k v_k0 v_k1 v_k2 ((v_l22 &&& (3 : Int64)).toInt32)) = (0 : Int32) then (2 : Int32) else (3 : Int32))) = (1 : Int32) := by simp only [eq_true hk14, if_true, if_false]
    have q2 : (if (own_k v_k0 v_k1 v_k2 ((v_l21 &&& (3 : Int64)).toInt32)) = (0 : Int32) then v_l21 else (if (own_k v_k0 v_k1 v_k2 ((v_l22 &&& (3 : Int64)).toInt32)) = (0 : Int32) then v_l22 else v_nx)) = v_l21 := by simp only [eq_true hk14, if_true, if_false]
    rw [e19, q1, q2]
    exact ⟨rfl, H20, xK22, xN21⟩
  · refine Gd.go (fun _ w_k => XS.icmpNo X13.here hx rfl (hb hby d20_59) rfl (feq (fun q => hk14 q.symm)).1 w_k) ?_
    show Gd _ _ _ _ (T13.setTop (mkF m 62 #[.val (.ref (ad 0))] []))
    refine Gd.go (fun _ w_k => XS.aloadN X13.here hx rfl (hb hby d20_62) rfl rfl (XS.dup X13.here hx rfl (hb hby d20_63) rfl rfl w_k)) ?_
    show Gd _ _ _ _ (T13.setTop (mkF m 64 #[.val (.ref (ad 0))] [(.ref (ad 0)), (.ref (ad 0))]))
    obtain ⟨T23, X23, e23, st23⟩ := getF X13 hx hZ hown (host := "") (Or.inl (ow hw 124 rfl)) Via.refl e13 H3.2.2.2.2.2.2.2.2.2.2.2.2.2.2.2.2.2.2.2.1 (g := (mkF m 64 #[.val (.ref (ad 0))] [(.ref (ad 0)), (.ref (ad 0))])) rfl rfl (hb hby d20_64)
    refine Gd.go (fun _ w_k => st23 _ (XS.iconst X23.here hx rfl (hb hby d20_67) (XS.iadd X23.here hx rfl (hb hby d20_68) rfl w_k))) ?_
    show Gd _ _ _ _ (T23.setTop (mkF m 69 #[.val (.ref (ad 0))] [(.int ((1 : Int32) + (1 : Int32))), (.ref (ad 0))]))
    rw [show ((1 : Int32) + (1 : Int32)) = (2 : Int32) from by decide]
    show Gd _ _ _ _ (T23.setTop (mkF m 69 #[.val (.ref (ad 0))] [(.int (2 : Int32)), (.ref (ad 0))]))
    obtain ⟨T24, h24, X24, e24, W24, st24⟩ := putF X23 hx hZ hown (host := "") (Or.inl (ow hw 124 rfl)) Via.refl e23 H3.2.2.2.2.2.2.2.2.2.2.2.2.2.2.2.2.2.2.2.1 H3.2.2.1 (Or.inl (ow hw 125 rfl)) (ow hw 3 rfl) (ty := .int) (by decide) rfl rfl (g := (mkF m 69 #[.val (.ref (ad 0))] [(.int (2 : Int32)), (.ref (ad 0))])) rfl rfl (hb hby d20_69)
    refine Gd.go (fun _ w_k => st24 _ w_k) ?_
    have H25 := own_w_at hw H3 W24
    have xN26 := Fr.snoc X24 xN4 (H.2.1 0 (by decide))
    have xK27 := Keep.wr xK5 W24 (Or.inl (by simp))
    show Gd _ _ _ _ (T24.setTop (mkF m 72 #[.val (.ref (ad 0))] []))
    refine Gd.go (fun _ w_k => XS.goto X24.here hx rfl (pc0 := 72) (pc' := 10) rfl (hb hby d20_72) (by decide) (by decide) (XS.aloadN X24.here hx rfl (hb hby d20_10) rfl rfl w_k)) ?_
    show Gd _ _ _ _ (T24.setTop (mkF m 11 #[.val (.ref (ad 0))] [(.ref (ad 0))]))
    obtain ⟨T28, X28, e28, st28⟩ := getF X24 hx hZ hown (host := "") (Or.inl (ow hw 124 rfl)) Via.refl e24 H25.2.2.2.2.2.2.2.2.2.2.2.2.2.2.2.2.2.2.2.1 (g := (mkF m 11 #[.val (.ref (ad 0))] [(.ref (ad 0))])) rfl rfl (hb hby d20_11)
    refine Gd.go (fun _ w_k => st28 _ (XS.aloadN X28.here hx rfl (hb hby d20_14) rfl rfl w_k)) ?_
    show Gd _ _ _ _ (T28.setTop (mkF m 15 #[.val (.ref (ad 0))] [(.ref (ad 0)), (.int (2 : Int32))]))
    obtain ⟨T29, X29, e29, st29⟩ := getF X28 hx hZ hown (host := "") (Or.inl (ow hw 24 rfl)) Via.refl e28 H25.2.2.2.2.2.2.1 (g := (mkF m 15 #[.val (.ref (ad 0))] [(.ref (ad 0)), (.int (2 : Int32))])) rfl rfl (hb hby d20_15)
    refine Gd.go (fun _ w_k => st29 _ (own_getR X29 hx hZ hown (ow hw 78 rfl) e29 H25.2.2.2.2.2.2.2.2.2.2.2.2.2.2.2.2.2.2.2.2.2.2.2.2.2.2.1 (g := (mkF m 18 #[.val (.ref (ad 0))] [(.ref (ad 2)), (.int (2 : Int32))])) rfl rfl (hb hby d20_18) _ (XS.icmpNo X29.here hx rfl (hb hby d20_21) rfl (tlt (by decide)).2.1 w_k))) ?_
    show Gd _ _ _ _ (T29.setTop (mkF m 24 #[.val (.ref (ad 0))] []))
    refine Gd.go (fun _ w_k => XS.aloadN X29.here hx rfl (hb hby d20_24) rfl rfl w_k) ?_
    show Gd _ _ _ _ (T29.setTop (mkF m 25 #[.val (.ref (ad 0))] [(.ref (ad 0))]))
    obtain ⟨T30, X30, e30, st30⟩ := getF X29 hx hZ hown (host := "") (Or.inl (ow hw 24 rfl)) Via.refl e29 H25.2.2.2.2.2.2.1 (g := (mkF m 25 #[.val (.ref (ad 0))] [(.ref (ad 0))])) rfl rfl (hb hby d20_25)
    refine Gd.go (fun _ w_k => st30 _ (own_getR X30 hx hZ hown (ow hw 87 rfl) e30 H25.2.2.2.2.2.2.2.2.2.2.2.2.2.2.2.2.2.2.2.2.2.2.2.2.2.1 (g := (mkF m 28 #[.val (.ref (ad 0))] [(.ref (ad 2))])) rfl rfl (hb hby d20_28) _ (XS.aloadN X30.here hx rfl (hb hby d20_31) rfl rfl w_k))) ?_
    show Gd _ _ _ _ (T30.setTop (mkF m 32 #[.val (.ref (ad 0))] [(.ref (ad 0)), (.ref (ad 8))]))
    obtain ⟨T31, X31, e31, st31⟩ := getF X30 hx hZ hown (host := "") (Or.inl (ow hw 124 rfl)) Via.refl e30 H25.2.2.2.2.2.2.2.2.2.2.2.2.2.2.2.2.2.2.2.1 (g := (mkF m 32 #[.val (.ref (ad 0))] [(.ref (ad 0)), (.ref (ad 8))])) rfl rfl (hb hby d20_32)
    refine Gd.go (fun _ w_k => st31 _ (own_ldI X31 hx hZ e31 H25.2.2.2.2.2.2.2.2.2.2.2.2.2.2.2.2.2.2.2.2.2.2.2.2.2.2.2.2.2.2.2.2.2.2.1 (j := (2 : Int32)) (by decide) (by decide) (v := (.int (0 : Int32))) rfl (g := (mkF m 35 #[.val (.ref (ad 0))] [(.int (2 : Int32)), (.ref (ad 8))])) rfl rfl (hb hby d20_35) _ (XS.aloadN X31.here hx rfl (hb hby d20_36) rfl rfl w_k))) ?_
    show Gd _ _ _ _ (T31.setTop (mkF m 37 #[.val (.ref (ad 0))] [(.ref (ad 0)), (.int (0 : Int32))]))
    obtain ⟨T32, X32, e32, st32⟩ := getF X31 hx hZ hown (host := "") (Or.inl (ow hw 49 rfl)) Via.refl e31 H25.2.2.2.2.2.2.2.2.2.2.2.2.2.2.2.2.2.1 (g := (mkF m 37 #[.val (.ref (ad 0))] [(.ref (ad 0)), (.int (0 : Int32))])) rfl rfl (hb hby d20_37)
    refine Gd.go (fun _ w_k => st32 _ (XS.aloadN X32.here hx rfl (hb hby d20_40) rfl rfl w_k)) ?_
    show Gd _ _ _ _ (T32.setTop (mkF m 41 #[.val (.ref (ad 0))] [(.ref (ad 0)), (.ref (ad 10)), (.int (0 : Int32))]))
    obtain ⟨T33, X33, e33, st33⟩ := getF X32 hx hZ hown (host := "") (Or.inl (ow hw 24 rfl)) Via.refl e32 H25.2.2.2.2.2.2.1 (g := (mkF m 41 #[.val (.ref (ad 0))] [(.ref (ad 0)), (.ref (ad 10)), (.int (0 : Int32))])) rfl rfl (hb hby d20_41)
    refine Gd.go (fun _ w_k => st33 _ (own_getR X33 hx hZ hown (ow hw 88 rfl) e33 H25.2.2.2.2.2.2.2.2.2.2.2.2.2.2.2.2.2.2.2.2.2.2.2.2.1 (g := (mkF m 44 #[.val (.ref (ad 0))] [(.ref (ad 2)), (.ref (ad 10)), (.int (0 : Int32))])) rfl rfl (hb hby d20_44) _ (XS.aloadN X33.here hx rfl (hb hby d20_47) rfl rfl w_k))) ?_
    show Gd _ _ _ _ (T33.setTop (mkF m 48 #[.val (.ref (ad 0))] [(.ref (ad 0)), (.ref (ad 5)), (.ref (ad 10)), (.int (0 : Int32))]))
    obtain ⟨T34, X34, e34, st34⟩ := getF X33 hx hZ hown (host := "") (Or.inl (ow hw 124 rfl)) Via.refl e33 H25.2.2.2.2.2.2.2.2.2.2.2.2.2.2.2.2.2.2.2.1 (g := (mkF m 48 #[.val (.ref (ad 0))] [(.ref (ad 0)), (.ref (ad 5)), (.ref (ad 10)), (.int (0 : Int32))])) rfl rfl (hb hby d20_48)
    refine Gd.go (fun _ w_k => st34 _ (own_ldJ X34 hx hZ e34 H25.2.2.2.2.2.2.2.2.2.2.2.2.2.2.2.2.2.2.2.2.2.2.2.2.2.2.2.2.2.2.2.1 (j := (2 : Int32)) (by decide) (by decide) (v := (.long v_l22)) rfl (g := (mkF m 51 #[.val (.ref (ad 0))] [(.int (2 : Int32)), (.ref (ad 5)), (.ref (ad 10)), (.int (0 : Int32))])) rfl rfl (hb hby d20_51) _ (XS.aloadN X34.here hx rfl (hb hby d20_52) rfl rfl w_k))) ?_
    show Gd _ _ _ _ (T34.setTop (mkF m 53 #[.val (.ref (ad 0))] [(.ref (ad 0)), (.long v_l22), (.ref (ad 10)), (.int (0 : Int32))]))
    obtain ⟨T35, X35, e35, st35⟩ := getF X34 hx hZ hown (host := "") (Or.inl (ow hw 43 rfl)) Via.refl e34 H25.2.2.2.2.2.2.2.2.2.2.2.1 (g := (mkF m 53 #[.val (.ref (ad 0))] [(.ref (ad 0)), (.long v_l22), (.ref (ad 10)), (.int (0 : Int32))])) rfl rfl (hb hby d20_53)
    refine Gd.go (fun _ w_k => st35 _ (XS.land X35.here hx rfl (hb hby d20_56) rfl (XS.l2i X35.here hx rfl (hb hby d20_57) rfl (own_ldI X35 hx hZ e35 H25.2.2.2.2.2.2.2.2.2.2.2.2.2.2.2.2.2.2.2.2.2.2.2.2.2.2.2.2.2.2.2.2.2.2.2.2 (j := ((v_l22 &&& (3 : Int64)).toInt32)) g2.1 g2.2 (v := (.int (own_k v_k0 v_k1 v_k2 ((v_l22 &&& (3 : Int64)).toInt32)))) (own_kI g2) (g := (mkF m 58 #[.val (.ref (ad 0))] [(.int ((v_l22 &&& (3 : Int64)).toInt32)), (.ref (ad 10)), (.int (0 : Int32))])) rfl rfl (hb hby d20_58) _ w_k)))) ?_
    show Gd _ _ _ _ (T35.setTop (mkF m 59 #[.val (.ref (ad 0))] [(.int (own_k v_k0 v_k1 v_k2 ((v_l22 &&& (3 : Int64)).toInt32))), (.int (0 : Int32))]))
    by_cases hk36 : (own_k v_k0 v_k1 v_k2 ((v_l22 &&& (3 : Int64)).toInt32)) = (0 : Int32)
    · refine Gd.go (fun _ w_k => XS.icmpYes X35.here hx rfl (pc0 := 59) (pc' := 75) rfl (hb hby d20_59) rfl (teq hk36.symm).1 (by decide) (by decide) w_k) ?_
      show Gd _ _ _ _ (T35.setTop (mkF m 75 #[.val (.ref (ad 0))] []))
      refine Gd.go (fun _ w_k => XS.aloadN X35.here hx rfl (hb hby d20_75) rfl rfl w_k) ?_
      show Gd _ _ _ _ (T35.setTop (mkF m 76 #[.val (.ref (ad 0))] [(.ref (ad 0))]))
      obtain ⟨T37, X37, e37, st37⟩ := getF X35 hx hZ hown (host := "") (Or.inl (ow hw 124 rfl)) Via.refl e35 H25.2.2.2.2.2.2.2.2.2.2.2.2.2.2.2.2.2.2.2.1 (g := (mkF m 76 #[.val (.ref (ad 0))] [(.ref (ad 0))])) rfl rfl (hb hby d20_76)
      refine Gd.go (fun _ w_k => st37 _ (XS.aloadN X37.here hx rfl (hb hby d20_79) rfl rfl w_k)) ?_
      show Gd _ _ _ _ (T37.setTop (mkF m 80 #[.val (.ref (ad 0))] [(.ref (ad 0)), (.int (2 : Int32))]))
      obtain ⟨T38, X38, e38, st38⟩ := getF X37 hx hZ hown (host := "") (Or.inl (ow hw 24 rfl)) Via.refl e37 H25.2.2.2.2.2.2.1 (g := (mkF m 80 #[.val (.ref (ad 0))] [(.ref (ad 0)), (.int (2 : Int32))])) rfl rfl (hb hby d20_80)
      refine Gd.go (fun _ w_k => st38 _ (own_getR X38 hx hZ hown (ow hw 78 rfl) e38 H25.2.2.2.2.2.2.2.2.2.2.2.2.2.2.2.2.2.2.2.2.2.2.2.2.2.2.1 (g := (mkF m 83 #[.val (.ref (ad 0))] [(.ref (ad 2)), (.int (2 : Int32))])) rfl rfl (hb hby d20_83) _ (XS.icmpNo X38.here hx rfl (hb hby d20_86) rfl (tlt (by decide)).2.1 w_k))) ?_
      show Gd _ _ _ _ (T38.setTop (mkF m 89 #[.val (.ref (ad 0))] []))
      refine Gd.go (fun _ w_k => XS.aloadN X38.here hx rfl (hb hby d20_89) rfl rfl (XS.aloadN X38.here hx rfl (hb hby d20_90) rfl rfl w_k)) ?_
      show Gd _ _ _ _ (T38.setTop (mkF m 91 #[.val (.ref (ad 0))] [(.ref (ad 0)), (.ref (ad 0))]))
      obtain ⟨T39, X39, e39, st39⟩ := getF X38 hx hZ hown (host := "") (Or.inl (ow hw 24 rfl)) Via.refl e38 H25.2.2.2.2.2.2.1 (g := (mkF m 91 #[.val (.ref (ad 0))] [(.ref (ad 0)), (.ref (ad 0))])) rfl rfl (hb hby d20_91)
      refine Gd.go (fun _ w_k => st39 _ (own_getR X39 hx hZ hown (ow hw 88 rfl) e39 H25.2.2.2.2.2.2.2.2.2.2.2.2.2.2.2.2.2.2.2.2.2.2.2.2.1 (g := (mkF m 94 #[.val (.ref (ad 0))] [(.ref (ad 2)), (.ref (ad 0))])) rfl rfl (hb hby d20_94) _ (XS.aloadN X39.here hx rfl (hb hby d20_97) rfl rfl w_k))) ?_
      show Gd _ _ _ _ (T39.setTop (mkF m 98 #[.val (.ref (ad 0))] [(.ref (ad 0)), (.ref (ad 5)), (.ref (ad 0))]))
      obtain ⟨T40, X40, e40, st40⟩ := getF X39 hx hZ hown (host := "") (Or.inl (ow hw 124 rfl)) Via.refl e39 H25.2.2.2.2.2.2.2.2.2.2.2.2.2.2.2.2.2.2.2.1 (g := (mkF m 98 #[.val (.ref (ad 0))] [(.ref (ad 0)), (.ref (ad 5)), (.ref (ad 0))])) rfl rfl (hb hby d20_98)
      refine Gd.go (fun _ w_k => st40 _ (own_ldJ X40 hx hZ e40 H25.2.2.2.2.2.2.2.2.2.2.2.2.2.2.2.2.2.2.2.2.2.2.2.2.2.2.2.2.2.2.2.1 (j := (2 : Int32)) (by decide) (by decide) (v := (.long v_l22)) rfl (g := (mkF m 101 #[.val (.ref (ad 0))] [(.int (2 : Int32)), (.ref (ad 5)), (.ref (ad 0))])) rfl rfl (hb hby d20_101) _ w_k)) ?_
      show Gd _ _ _ _ (T40.setTop (mkF m 102 #[.val (.ref (ad 0))] [(.long v_l22), (.ref (ad 0))]))
      obtain ⟨T41, h41, X41, e41, W41, st41⟩ := putF X40 hx hZ hown (host := "") (Or.inl (ow hw 131 rfl)) Via.refl e40 H25.2.2.2.2.2.2.2.2.2.2.2.2.2.2.2.2.2.2.2.2.1 H25.2.2.1 (Or.inl (ow hw 132 rfl)) (ow hw 3 rfl) (ty := .long) (by decide) rfl rfl (g := (mkF m 102 #[.val (.ref (ad 0))] [(.long v_l22), (.ref (ad 0))])) rfl rfl (hb hby d20_102)
      refine Gd.go (fun _ w_k => st41 _ w_k) ?_
      have H42 := own_w_nx hw H25 W41
      have xN43 := Fr.snoc X41 xN26 (H.2.1 0 (by decide))
      have xK44 := Keep.wr xK27 W41 (Or.inl (by simp))
      show Gd _ _ _ _ (T41.setTop (mkF m 105 #[.val (.ref (ad 0))] []))
      refine own_retV X41 hx hret hlk (hb hby d20_105) ?_ (by decide) (by decide)
      have q1 : (if (own_k v_k0 v_k1 v_k2 ((v_l21 &&& (3 : Int64)).toInt32)) = (0 : Int32) then (1 : Int32) else (if (own_k v_k0 v_k1 v_k2 ((v_l22 &&& (3 : Int64)).toInt32)) = (0 : Int32) then (2 : Int32) else (3 : Int32))) = (2 : Int32) := by simp only [eq_false hk14, eq_true hk36, if_true, if_false]
      have q2 : (if (own_k v_k0 v_k1 v_k2 ((v_l21 &&& (3 : Int64)).toInt32)) = (0 : Int32) then v_l21 else (if (own_k v_k0 v_k1 v_k2 ((v_l22 &&& (3 : Int64)).toInt32)) = (0 : Int32) then v_l22 else v_nx)) = v_l22 := by simp only [eq_false hk14, eq_true hk36, if_true, if_false]
      rw [e41, q1, q2]
      exact ⟨rfl, H42, xK44, xN43⟩
    · refine Gd.go (fun _ w_k => XS.icmpNo X35.here hx rfl (hb hby d20_59) rfl (feq (fun q => hk36 q.symm)).1 w_k) ?_
      show Gd _ _ _ _ (T35.setTop (mkF m 62 #[.val (.ref (ad 0))] []))
      refine Gd.go (fun _ w_k => XS.aloadN X35.here hx rfl (hb hby d20_62) rfl rfl (XS.dup X35.here hx rfl (hb hby d20_63) rfl rfl w_k)) ?_
      show Gd _ _ _ _ (T35.setTop (mkF m 64 #[.val (.ref (ad 0))] [(.ref (ad 0)), (.ref (ad 0))]))
      obtain ⟨T45, X45, e45, st45⟩ := getF X35 hx hZ hown (host := "") (Or.inl (ow hw 124 rfl)) Via.refl e35 H25.2.2.2.2.2.2.2.2.2.2.2.2.2.2.2.2.2.2.2.1 (g := (mkF m 64 #[.val (.ref (ad 0))] [(.ref (ad 0)), (.ref (ad 0))])) rfl rfl (hb hby d20_64)
      refine Gd.go (fun _ w_k => st45 _ (XS.iconst X45.here hx rfl (hb hby d20_67) (XS.iadd X45.here hx rfl (hb hby d20_68) rfl w_k))) ?_
      show Gd _ _ _ _ (T45.setTop (mkF m 69 #[.val (.ref (ad 0))] [(.int ((2 : Int32) + (1 : Int32))), (.ref (ad 0))]))
      rw [show ((2 : Int32) + (1 : Int32)) = (3 : Int32) from by decide]
      show Gd _ _ _ _ (T45.setTop (mkF m 69 #[.val (.ref (ad 0))] [(.int (3 : Int32)), (.ref (ad 0))]))
      obtain ⟨T46, h46, X46, e46, W46, st46⟩ := putF X45 hx hZ hown (host := "") (Or.inl (ow hw 124 rfl)) Via.refl e45 H25.2.2.2.2.2.2.2.2.2.2.2.2.2.2.2.2.2.2.2.1 H25.2.2.1 (Or.inl (ow hw 125 rfl)) (ow hw 3 rfl) (ty := .int) (by decide) rfl rfl (g := (mkF m 69 #[.val (.ref (ad 0))] [(.int (3 : Int32)), (.ref (ad 0))])) rfl rfl (hb hby d20_69)
      refine Gd.go (fun _ w_k => st46 _ w_k) ?_
      have H47 := own_w_at hw H25 W46
      have xN48 := Fr.snoc X46 xN26 (H.2.1 0 (by decide))
      have xK49 := Keep.wr xK27 W46 (Or.inl (by simp))
      show Gd _ _ _ _ (T46.setTop (mkF m 72 #[.val (.ref (ad 0))] []))
      refine Gd.go (fun _ w_k => XS.goto X46.here hx rfl (pc0 := 72) (pc' := 10) rfl (hb hby d20_72) (by decide) (by decide) (XS.aloadN X46.here hx rfl (hb hby d20_10) rfl rfl w_k)) ?_
      show Gd _ _ _ _ (T46.setTop (mkF m 11 #[.val (.ref (ad 0))] [(.ref (ad 0))]))
      obtain ⟨T50, X50, e50, st50⟩ := getF X46 hx hZ hown (host := "") (Or.inl (ow hw 124 rfl)) Via.refl e46 H47.2.2.2.2.2.2.2.2.2.2.2.2.2.2.2.2.2.2.2.1 (g := (mkF m 11 #[.val (.ref (ad 0))] [(.ref (ad 0))])) rfl rfl (hb hby d20_11)
      refine Gd.go (fun _ w_k => st50 _ (XS.aloadN X50.here hx rfl (hb hby d20_14) rfl rfl w_k)) ?_
      show Gd _ _ _ _ (T50.setTop (mkF m 15 #[.val (.ref (ad 0))] [(.ref (ad 0)), (.int (3 : Int32))]))
      obtain ⟨T51, X51, e51, st51⟩ := getF X50 hx hZ hown (host := "") (Or.inl (ow hw 24 rfl)) Via.refl e50 H47.2.2.2.2.2.2.1 (g := (mkF m 15 #[.val (.ref (ad 0))] [(.ref (ad 0)), (.int (3 : Int32))])) rfl rfl (hb hby d20_15)
      refine Gd.go (fun _ w_k => st51 _ (own_getR X51 hx hZ hown (ow hw 78 rfl) e51 H47.2.2.2.2.2.2.2.2.2.2.2.2.2.2.2.2.2.2.2.2.2.2.2.2.2.2.1 (g := (mkF m 18 #[.val (.ref (ad 0))] [(.ref (ad 2)), (.int (3 : Int32))])) rfl rfl (hb hby d20_18) _ (XS.icmpYes X51.here hx rfl (pc0 := 21) (pc' := 75) rfl (hb hby d20_21) rfl (flt (by decide)).2.1 (by decide) (by decide) w_k))) ?_
      show Gd _ _ _ _ (T51.setTop (mkF m 75 #[.val (.ref (ad 0))] []))
      refine Gd.go (fun _ w_k => XS.aloadN X51.here hx rfl (hb hby d20_75) rfl rfl w_k) ?_
      show Gd _ _ _ _ (T51.setTop (mkF m 76 #[.val (.ref (ad 0))] [(.ref (ad 0))]))
      obtain ⟨T52, X52, e52, st52⟩ := getF X51 hx hZ hown (host := "") (Or.inl (ow hw 124 rfl)) Via.refl e51 H47.2.2.2.2.2.2.2.2.2.2.2.2.2.2.2.2.2.2.2.1 (g := (mkF m 76 #[.val (.ref (ad 0))] [(.ref (ad 0))])) rfl rfl (hb hby d20_76)
      refine Gd.go (fun _ w_k => st52 _ (XS.aloadN X52.here hx rfl (hb hby d20_79) rfl rfl w_k)) ?_
      show Gd _ _ _ _ (T52.setTop (mkF m 80 #[.val (.ref (ad 0))] [(.ref (ad 0)), (.int (3 : Int32))]))
      obtain ⟨T53, X53, e53, st53⟩ := getF X52 hx hZ hown (host := "") (Or.inl (ow hw 24 rfl)) Via.refl e52 H47.2.2.2.2.2.2.1 (g := (mkF m 80 #[.val (.ref (ad 0))] [(.ref (ad 0)), (.int (3 : Int32))])) rfl rfl (hb hby d20_80)
      refine Gd.go (fun _ w_k => st53 _ (own_getR X53 hx hZ hown (ow hw 78 rfl) e53 H47.2.2.2.2.2.2.2.2.2.2.2.2.2.2.2.2.2.2.2.2.2.2.2.2.2.2.1 (g := (mkF m 83 #[.val (.ref (ad 0))] [(.ref (ad 2)), (.int (3 : Int32))])) rfl rfl (hb hby d20_83) _ (XS.icmpYes X53.here hx rfl (pc0 := 86) (pc' := 105) rfl (hb hby d20_86) rfl (flt (by decide)).2.1 (by decide) (by decide) w_k))) ?_
      show Gd _ _ _ _ (T53.setTop (mkF m 105 #[.val (.ref (ad 0))] []))
      refine own_retV X53 hx hret hlk (hb hby d20_105) ?_ (by decide) (by decide)
      have q1 : (if (own_k v_k0 v_k1 v_k2 ((v_l21 &&& (3 : Int64)).toInt32)) = (0 : Int32) then (1 : Int32) else (if (own_k v_k0 v_k1 v_k2 ((v_l22 &&& (3 : Int64)).toInt32)) = (0 : Int32) then (2 : Int32) else (3 : Int32))) = (3 : Int32) := by simp only [eq_false hk14, eq_false hk36, if_true, if_false]
      have q2 : (if (own_k v_k0 v_k1 v_k2 ((v_l21 &&& (3 : Int64)).toInt32)) = (0 : Int32) then v_l21 else (if (own_k v_k0 v_k1 v_k2 ((v_l22 &&& (3 : Int64)).toInt32)) = (0 : Int32) then v_l22 else v_nx)) = v_nx := by simp only [eq_false hk14, eq_false hk36, if_true, if_false]
      rw [e53, q1, q2]
      exact ⟨rfl, H47, xK49, xN48⟩
set_option maxRecDepth 65536 in
set_option maxHeartbeats 40000000 in
theorem own_c20_1 (l : Launch) (Z : State) (a0 : Array Value) (hw : ∀ d ∈ tables_1, d.before a0 Z = true) (h0 : Heap) (n0 : Nat) (ad : Nat → Addr) (v_mg : Addr) (v_ra : Int32) (v_fa : Int32) (v_fk : Int32) (v_an : Int32) (v_nx : Int64) (v_c1 : Int32) (v_c3 : Int32) (v_l10 : Int64) (v_l11 : Int64) (v_l12 : Int64) (v_l20 : Int64) (v_l21 : Int64) (v_l22 : Int64) (v_l30 : Int64) (v_l31 : Int64) (v_l32 : Int64) (v_i10 : Int32) (v_i11 : Int32) (v_i12 : Int32) (v_i30 : Int32) (v_i31 : Int32) (v_i32 : Int32) (v_k0 : Int32) (v_k1 : Int32) (v_k2 : Int32) (g0 : own_ix ((v_l20 &&& (3 : Int64)).toInt32)) (g1 : own_ix ((v_l21 &&& (3 : Int64)).toInt32)) (g2 : own_ix ((v_l22 &&& (3 : Int64)).toInt32)) (H : own_H Z h0 n0 ad (ad 2) v_mg v_ra v_fa v_fk v_an (1 : Int32) v_nx v_c1 (3 : Int32) v_c3 v_l10 v_l11 v_l12 v_l20 v_l21 v_l22 v_l30 v_l31 v_l32 v_i10 v_i11 v_i12 (0 : Int32) (0 : Int32) (0 : Int32) v_i30 v_i31 v_i32 v_k0 v_k1 v_k2) :
    Con l Z (⟨"com/example/nearfield/nearfield/job/RankedReads", "next", "()V"⟩ : MethodName) prog_98_method_21_code 1 none [] ({ frames := 0, cells := 0, slots := 0, locals := 0 } : Room) 0 0 #[(.ref (ad 0))] h0 (fun r h L => r = none ∧ own_H Z h n0 ad (ad 2) v_mg v_ra v_fa v_fk v_an (if (own_k v_k0 v_k1 v_k2 ((v_l22 &&& (3 : Int64)).toInt32)) = (0 : Int32) then (2 : Int32) else (3 : Int32)) (if (own_k v_k0 v_k1 v_k2 ((v_l22 &&& (3 : Int64)).toInt32)) = (0 : Int32) then v_l22 else v_nx) v_c1 (3 : Int32) v_c3 v_l10 v_l11 v_l12 v_l20 v_l21 v_l22 v_l30 v_l31 v_l32 v_i10 v_i11 v_i12 (0 : Int32) (0 : Int32) (0 : Int32) v_i30 v_i31 v_i32 v_k0 v_k1 v_k2 ∧ Keep h0 h [ad 0] ∧ Fr n0 L) := by
  refine Con.of own_pn6 ?_
  intro pg ev s_ m bl mt cd s₁ hx hby hml hown hnm hret hlk hZ X0 e0
  rw [ef_20]
  show Gd _ _ _ _ (s₁.setTop (mkF m 0 #[.val (.ref (ad 0))] []))
  have N0 := Fr.nil n0
  have K0 := Keep.refl h0 [(ad 0)]
  refine Gd.go (fun _ w_k => XS.aloadN X0.here hx rfl (hb hby d20_0) rfl rfl (XS.dup X0.here hx rfl (hb hby d20_1) rfl rfl w_k)) ?_
  show Gd _ _ _ _ (s₁.setTop (mkF m 2 #[.val (.ref (ad 0))] [(.ref (ad 0)), (.ref (ad 0))]))
  obtain ⟨T1, X1, e1, st1⟩ := getF X0 hx hZ hown (host := "") (Or.inl (ow hw 124 rfl)) Via.refl e0 H.2.2.2.2.2.2.2.2.2.2.2.2.2.2.2.2.2.2.2.1 (g := (mkF m 2 #[.val (.ref (ad 0))] [(.ref (ad 0)), (.ref (ad 0))])) rfl rfl (hb hby d20_2)
  refine Gd.go (fun _ w_k => st1 _ (XS.iconst X1.here hx rfl (hb hby d20_5) (XS.iadd X1.here hx rfl (hb hby d20_6) rfl w_k))) ?_
  show Gd _ _ _ _ (T1.setTop (mkF m 7 #[.val (.ref (ad 0))] [(.int ((1 : Int32) + (1 : Int32))), (.ref (ad 0))]))
  rw [show ((1 : Int32) + (1 : Int32)) = (2 : Int32) from by decide]
  show Gd _ _ _ _ (T1.setTop (mkF m 7 #[.val (.ref (ad 0))] [(.int (2 : Int32)), (.ref (ad 0))]))
  obtain ⟨T2, h2, X2, e2, W2, st2⟩ := putF X1 hx hZ hown (host := "") (Or.inl (ow hw 124 rfl)) Via.refl e1 H.2.2.2.2.2.2.2.2.2.2.2.2.2.2.2.2.2.2.2.1 H.2.2.1 (Or.inl (ow hw 125 rfl)) (ow hw 3 rfl) (ty := .int) (by decide) rfl rfl (g := (mkF m 7 #[.val (.ref (ad 0))] [(.int (2 : Int32)), (.ref (ad 0))])) rfl rfl (hb hby d20_7)
  refine Gd.go (fun _ w_k => st2 _ w_k) ?_
  have H3 := own_w_at hw H W2
  have xN4 := Fr.snoc X2 N0 (H.2.1 0 (by decide))
  have xK5 := Keep.wr K0 W2 (Or.inl (by simp))
  show Gd _ _ _ _ (T2.setTop (mkF m 10 #[.val (.ref (ad 0))] []))
  refine Gd.go (fun _ w_k => XS.aloadN X2.here hx rfl (hb hby d20_10) rfl rfl w_k) ?_
  show Gd _ _ _ _ (T2.setTop (mkF m 11 #[.val (.ref (ad 0))] [(.ref (ad 0))]))
  obtain ⟨T6, X6, e6, st6⟩ := getF X2 hx hZ hown (host := "") (Or.inl (ow hw 124 rfl)) Via.refl e2 H3.2.2.2.2.2.2.2.2.2.2.2.2.2.2.2.2.2.2.2.1 (g := (mkF m 11 #[.val (.ref (ad 0))] [(.ref (ad 0))])) rfl rfl (hb hby d20_11)
  refine Gd.go (fun _ w_k => st6 _ (XS.aloadN X6.here hx rfl (hb hby d20_14) rfl rfl w_k)) ?_
  show Gd _ _ _ _ (T6.setTop (mkF m 15 #[.val (.ref (ad 0))] [(.ref (ad 0)), (.int (2 : Int32))]))
  obtain ⟨T7, X7, e7, st7⟩ := getF X6 hx hZ hown (host := "") (Or.inl (ow hw 24 rfl)) Via.refl e6 H3.2.2.2.2.2.2.1 (g := (mkF m 15 #[.val (.ref (ad 0))] [(.ref (ad 0)), (.int (2 : Int32))])) rfl rfl (hb hby d20_15)
  refine Gd.go (fun _ w_k => st7 _ (own_getR X7 hx hZ hown (ow hw 78 rfl) e7 H3.2.2.2.2.2.2.2.2.2.2.2.2.2.2.2.2.2.2.2.2.2.2.2.2.2.2.1 (g := (mkF m 18 #[.val (.ref (ad 0))] [(.ref (ad 2)), (.int (2 : Int32))])) rfl rfl (hb hby d20_18) _ (XS.icmpNo X7.here hx rfl (hb hby d20_21) rfl (tlt (by decide)).2.1 w_k))) ?_
  show Gd _ _ _ _ (T7.setTop (mkF m 24 #[.val (.ref (ad 0))] []))
  refine Gd.go (fun _ w_k => XS.aloadN X7.here hx rfl (hb hby d20_24) rfl rfl w_k) ?_
  show Gd _ _ _ _ (T7.setTop (mkF m 25 #[.val (.ref (ad 0))] [(.ref (ad 0))]))
  obtain ⟨T8, X8, e8, st8⟩ := getF X7 hx hZ hown (host := "") (Or.inl (ow hw 24 rfl)) Via.refl e7 H3.2.2.2.2.2.2.1 (g := (mkF m 25 #[.val (.ref (ad 0))] [(.ref (ad 0))])) rfl rfl (hb hby d20_25)
  refine Gd.go (fun _ w_k => st8 _ (own_getR X8 hx hZ hown (ow hw 87 rfl) e8 H3.2.2.2.2.2.2.2.2.2.2.2.2.2.2.2.2.2.2.2.2.2.2.2.2.2.1 (g := (mkF m 28 #[.val (.ref (ad 0))] [(.ref (ad 2))])) rfl rfl (hb hby d20_28) _ (XS.aloadN X8.here hx rfl (hb hby d20_31) rfl rfl w_k))) ?_
  show Gd _ _ _ _ (T8.setTop (mkF m 32 #[.val (.ref (ad 0))] [(.ref (ad 0)), (.ref (ad 8))]))
  obtain ⟨T9, X9, e9, st9⟩ := getF X8 hx hZ hown (host := "") (Or.inl (ow hw 124 rfl)) Via.refl e8 H3.2.2.2.2.2.2.2.2.2.2.2.2.2.2.2.2.2.2.2.1 (g := (mkF m 32 #[.val (.ref (ad 0))] [(.ref (ad 0)), (.ref (ad 8))])) rfl rfl (hb hby d20_32)
  refine Gd.go (fun _ w_k => st9 _ (own_ldI X9 hx hZ e9 H3.2.2.2.2.2.2.2.2.2.2.2.2.2.2.2.2.2.2.2.2.2.2.2.2.2.2.2.2.2.2.2.2.2.2.1 (j := (2 : Int32)) (by decide) (by decide) (v := (.int (0 : Int32))) rfl (g := (mkF m 35 #[.val (.ref (ad 0))] [(.int (2 : Int32)), (.ref (ad 8))])) rfl rfl (hb hby d20_35) _ (XS.aloadN X9.here hx rfl (hb hby d20_36) rfl rfl w_k))) ?_
  show Gd _ _ _ _ (T9.setTop (mkF m 37 #[.val (.ref (ad 0))] [(.ref (ad 0)), (.int (0 : Int32))]))
  obtain ⟨T10, X10, e10, st10⟩ := getF X9 hx hZ hown (host := "") (Or.inl (ow hw 49 rfl)) Via.refl e9 H3.2.2.2.2.2.2.2.2.2.2.2.2.2.2.2.2.2.1 (g := (mkF m 37 #[.val (.ref (ad 0))] [(.ref (ad 0)), (.int (0 : Int32))])) rfl rfl (hb hby d20_37)
  refine Gd.go (fun _ w_k => st10 _ (XS.aloadN X10.here hx rfl (hb hby d20_40) rfl rfl w_k)) ?_
  show Gd _ _ _ _ (T10.setTop (mkF m 41 #[.val (.ref (ad 0))] [(.ref (ad 0)), (.ref (ad 10)), (.int (0 : Int32))]))
  obtain ⟨T11, X11, e11, st11⟩ := getF X10 hx hZ hown (host := "") (Or.inl (ow hw 24 rfl)) Via.refl e10 H3.2.2.2.2.2.2.1 (g := (mkF m 41 #[.val (.ref (ad 0))] [(.ref (ad 0)), (.ref (ad 10)), (.int (0 : Int32))])) rfl rfl (hb hby d20_41)
  refine Gd.go (fun _ w_k => st11 _ (own_getR X11 hx hZ hown (ow hw 88 rfl) e11 H3.2.2.2.2.2.2.2.2.2.2.2.2.2.2.2.2.2.2.2.2.2.2.2.2.1 (g := (mkF m 44 #[.val (.ref (ad 0))] [(.ref (ad 2)), (.ref (ad 10)), (.int (0 : Int32))])) rfl rfl (hb hby d20_44) _ (XS.aloadN X11.here hx rfl (hb hby d20_47) rfl rfl w_k))) ?_
  show Gd _ _ _ _ (T11.setTop (mkF m 48 #[.val (.ref (ad 0))] [(.ref (ad 0)), (.ref (ad 5)), (.ref (ad 10)), (.int (0 : Int32))]))
  obtain ⟨T12, X12, e12, st12⟩ := getF X11 hx hZ hown (host := "") (Or.inl (ow hw 124 rfl)) Via.refl e11 H3.2.2.2.2.2.2.2.2.2.2.2.2.2.2.2.2.2.2.2.1 (g := (mkF m 48 #[.val (.ref (ad 0))] [(.ref (ad 0)), (.ref (ad 5)), (.ref (ad 10)), (.int (0 : Int32))])) rfl rfl (hb hby d20_48)
  refine Gd.go (fun _ w_k => st12 _ (own_ldJ X12 hx hZ e12 H3.2.2.2.2.2.2.2.2.2.2.2.2.2.2.2.2.2.2.2.2.2.2.2.2.2.2.2.2.2.2.2.1 (j := (2 : Int32)) (by decide) (by decide) (v := (.long v_l22)) rfl (g := (mkF m 51 #[.val (.ref (ad 0))] [(.int (2 : Int32)), (.ref (ad 5)), (.ref (ad 10)), (.int (0 : Int32))])) rfl rfl (hb hby d20_51) _ (XS.aloadN X12.here hx rfl (hb hby d20_52) rfl rfl w_k))) ?_
  show Gd _ _ _ _ (T12.setTop (mkF m 53 #[.val (.ref (ad 0))] [(.ref (ad 0)), (.long v_l22), (.ref (ad 10)), (.int (0 : Int32))]))
  obtain ⟨T13, X13, e13, st13⟩ := getF X12 hx hZ hown (host := "") (Or.inl (ow hw 43 rfl)) Via.refl e12 H3.2.2.2.2.2.2.2.2.2.2.2.1 (g := (mkF m 53 #[.val (.ref (ad 0))] [(.ref (ad 0)), (.long v_l22), (.ref (ad 10)), (.int (0 : Int32))])) rfl rfl (hb hby d20_53)
  refine Gd.go (fun _ w_k => st13 _ (XS.land X13.here hx rfl (hb hby d20_56) rfl (XS.l2i X13.here hx rfl (hb hby d20_57) rfl (own_ldI X13 hx hZ e13 H3.2.2.2.2.2.2.2.2.2.2.2.2.2.2.2.2.2.2.2.2.2.2.2.2.2.2.2.2.2.2.2.2.2.2.2.2 (j := ((v_l22 &&& (3 : Int64)).toInt32)) g2.1 g2.2 (v := (.int (own_k v_k0 v_k1 v_k2 ((v_l22 &&& (3 : Int64)).toInt32)))) (own_kI g2) (g := (mkF m 58 #[.val (.ref (ad 0))] [(.int ((v_l22 &&& (3 : Int64)).toInt32)), (.ref (ad 10)), (.int (0 : Int32))])) rfl rfl (hb hby d20_58) _ w_k)))) ?_
  show Gd _ _ _ _ (T13.setTop (mkF m 59 #[.val (.ref (ad 0))] [(.int (own_k v_k0 v_k1 v_k2 ((v_l22 &&& (3 : Int64)).toInt32))), (.int (0 : Int32))]))
  by_cases hk14 : (own_k v_k0 v_k1 v_k2 ((v_l22 &&& (3 : Int64)).toInt32)) = (0 : Int32)
  · refine Gd.go (fun _ w_k => XS.icmpYes X13.here hx rfl (pc0 := 59) (pc' := 75) rfl (hb hby d20_59) rfl (teq hk14.symm).1 (by decide) (by decide) w_k) ?_
    show Gd _ _ _ _ (T13.setTop (mkF m 75 #[.val (.ref (ad 0))] []))
    refine Gd.go (fun _ w_k => XS.aloadN X13.here hx rfl (hb hby d20_75) rfl rfl w_k) ?_
    show Gd _ _ _ _ (T13.setTop (mkF m 76 #[.val (.ref (ad 0))] [(.ref (ad 0))]))
    obtain ⟨T15, X15, e15, st15⟩ := getF X13 hx hZ hown (host := "") (Or.inl (ow hw 124 rfl)) Via.refl e13 H3.2.2.2.2.2.2.2.2.2.2.2.2.2.2.2.2.2.2.2.1 (g := (mkF m 76 #[.val (.ref (ad 0))] [(.ref (ad 0))])) rfl rfl (hb hby d20_76)
    refine Gd.go (fun _ w_k => st15 _ (XS.aloadN X15.here hx rfl (hb hby d20_79) rfl rfl w_k)) ?_
    show Gd _ _ _ _ (T15.setTop (mkF m 80 #[.val (.ref (ad 0))] [(.ref (ad 0)), (.int (2 : Int32))]))
    obtain ⟨T16, X16, e16, st16⟩ := getF X15 hx hZ hown (host := "") (Or.inl (ow hw 24 rfl)) Via.refl e15 H3.2.2.2.2.2.2.1 (g := (mkF m 80 #[.val (.ref (ad 0))] [(.ref (ad 0)), (.int (2 : Int32))])) rfl rfl (hb hby d20_80)
    refine Gd.go (fun _ w_k => st16 _ (own_getR X16 hx hZ hown (ow hw 78 rfl) e16 H3.2.2.2.2.2.2.2.2.2.2.2.2.2.2.2.2.2.2.2.2.2.2.2.2.2.2.1 (g := (mkF m 83 #[.val (.ref (ad 0))] [(.ref (ad 2)), (.int (2 : Int32))])) rfl rfl (hb hby d20_83) _ (XS.icmpNo X16.here hx rfl (hb hby d20_86) rfl (tlt (by decide)).2.1 w_k))) ?_
    show Gd _ _ _ _ (T16.setTop (mkF m 89 #[.val (.ref (ad 0))] []))
    refine Gd.go (fun _ w_k => XS.aloadN X16.here hx rfl (hb hby d20_89) rfl rfl (XS.aloadN X16.here hx rfl (hb hby d20_90) rfl rfl w_k)) ?_
    show Gd _ _ _ _ (T16.setTop (mkF m 91 #[.val (.ref (ad 0))] [(.ref (ad 0)), (.ref (ad 0))]))
    obtain ⟨T17, X17, e17, st17⟩ := getF X16 hx hZ hown (host := "") (Or.inl (ow hw 24 rfl)) Via.refl e16 H3.2.2.2.2.2.2.1 (g := (mkF m 91 #[.val (.ref (ad 0))] [(.ref (ad 0)), (.ref (ad 0))])) rfl rfl (hb hby d20_91)
    refine Gd.go (fun _ w_k => st17 _ (own_getR X17 hx hZ hown (ow hw 88 rfl) e17 H3.2.2.2.2.2.2.2.2.2.2.2.2.2.2.2.2.2.2.2.2.2.2.2.2.1 (g := (mkF m 94 #[.val (.ref (ad 0))] [(.ref (ad 2)), (.ref (ad 0))])) rfl rfl (hb hby d20_94) _ (XS.aloadN X17.here hx rfl (hb hby d20_97) rfl rfl w_k))) ?_
    show Gd _ _ _ _ (T17.setTop (mkF m 98 #[.val (.ref (ad 0))] [(.ref (ad 0)), (.ref (ad 5)), (.ref (ad 0))]))
    obtain ⟨T18, X18, e18, st18⟩ := getF X17 hx hZ hown (host := "") (Or.inl (ow hw 124 rfl)) Via.refl e17 H3.2.2.2.2.2.2.2.2.2.2.2.2.2.2.2.2.2.2.2.1 (g := (mkF m 98 #[.val (.ref (ad 0))] [(.ref (ad 0)), (.ref (ad 5)), (.ref (ad 0))])) rfl rfl (hb hby d20_98)
    refine Gd.go (fun _ w_k => st18 _ (own_ldJ X18 hx hZ e18 H3.2.2.2.2.2.2.2.2.2.2.2.2.2.2.2.2.2.2.2.2.2.2.2.2.2.2.2.2.2.2.2.1 (j := (2 : Int32)) (by decide) (by decide) (v := (.long v_l22)) rfl (g := (mkF m 101 #[.val (.ref (ad 0))] [(.int (2 : Int32)), (.ref (ad 5)), (.ref (ad 0))])) rfl rfl (hb hby d20_101) _ w_k)) ?_
    show Gd _ _ _ _ (T18.setTop (mkF m 102 #[.val (.ref (ad 0))] [(.long v_l22), (.ref (ad 0))]))
    obtain ⟨T19, h19, X19, e19, W19, st19⟩ := putF X18 hx hZ hown (host := "") (Or.inl (ow hw 131 rfl)) Via.refl e18 H3.2.2.2.2.2.2.2.2.2.2.2.2.2.2.2.2.2.2.2.2.1 H3.2.2.1 (Or.inl (ow hw 132 rfl)) (ow hw 3 rfl) (ty := .long) (by decide) rfl rfl (g := (mkF m 102 #[.val (.ref (ad 0))] [(.long v_l22), (.ref (ad 0))])) rfl rfl (hb hby d20_102)
    refine Gd.go (fun _ w_k => st19 _ w_k) ?_
    have H20 := own_w_nx hw H3 W19
    have xN21 := Fr.snoc X19 xN4 (H.2.1 0 (by decide))
    have xK22 := Keep.wr xK5 W19 (Or.inl (by simp))
    show Gd _ _ _ _ (T19.setTop (mkF m 105 #[.val (.ref (ad 0))] []))
    refine own_retV X19 hx hret hlk (hb hby d20_105) ?_ (by decide) (by decide)
    have q1 : (if (own_k v_k0 v_k1 v_k2 ((v_l22 &&& (3 : Int64)).toInt32)) = (0 : Int32) then (2 : Int32) else (3 : Int32)) = (2 : Int32) := by simp only [eq_true hk14, if_true, if_false]
    have q2 : (if (own_k v_k0 v_k1 v_k2 ((v_l22 &&& (3 : Int64)).toInt32)) = (0 : Int32) then v_l22 else v_nx) = v_l22 := by simp only [eq_true hk14, if_true, if_false]
    rw [e19, q1, q2]
    exact ⟨rfl, H20, xK22, xN21⟩
  · refine Gd.go (fun _ w_k => XS.icmpNo X13.here hx rfl (hb hby d20_59) rfl (feq (fun q => hk14 q.symm)).1 w_k) ?_
    show Gd _ _ _ _ (T13.setTop (mkF m 62 #[.val (.ref (ad 0))] []))
    refine Gd.go (fun _ w_k => XS.aloadN X13.here hx rfl (hb hby d20_62) rfl rfl (XS.dup X13.here hx rfl (hb hby d20_63) rfl rfl w_k)) ?_
    show Gd _ _ _ _ (T13.setTop (mkF m 64 #[.val (.ref (ad 0))] [(.ref (ad 0)), (.ref (ad 0))]))
    obtain ⟨T23, X23, e23, st23⟩ := getF X13 hx hZ hown (host := "") (Or.inl (ow hw 124 rfl)) Via.refl e13 H3.2.2.2.2.2.2.2.2.2.2.2.2.2.2.2.2.2.2.2.1 (g := (mkF m 64 #[.val (.ref (ad 0))] [(.ref (ad 0)), (.ref (ad 0))])) rfl rfl (hb hby d20_64)
    refine Gd.go (fun _ w_k => st23 _ (XS.iconst X23.here hx rfl (hb hby d20_67) (XS.iadd X23.here hx rfl (hb hby d20_68) rfl w_k))) ?_
    show Gd _ _ _ _ (T23.setTop (mkF m 69 #[.val (.ref (ad 0))] [(.int ((2 : Int32) + (1 : Int32))), (.ref (ad 0))]))
    rw [show ((2 : Int32) + (1 : Int32)) = (3 : Int32) from by decide]
    show Gd _ _ _ _ (T23.setTop (mkF m 69 #[.val (.ref (ad 0))] [(.int (3 : Int32)), (.ref (ad 0))]))
    obtain ⟨T24, h24, X24, e24, W24, st24⟩ := putF X23 hx hZ hown (host := "") (Or.inl (ow hw 124 rfl)) Via.refl e23 H3.2.2.2.2.2.2.2.2.2.2.2.2.2.2.2.2.2.2.2.1 H3.2.2.1 (Or.inl (ow hw 125 rfl)) (ow hw 3 rfl) (ty := .int) (by decide) rfl rfl (g := (mkF m 69 #[.val (.ref (ad 0))] [(.int (3 : Int32)), (.ref (ad 0))])) rfl rfl (hb hby d20_69)
    refine Gd.go (fun _ w_k => st24 _ w_k) ?_
    have H25 := own_w_at hw H3 W24
    have xN26 := Fr.snoc X24 xN4 (H.2.1 0 (by decide))
    have xK27 := Keep.wr xK5 W24 (Or.inl (by simp))
    show Gd _ _ _ _ (T24.setTop (mkF m 72 #[.val (.ref (ad 0))] []))
    refine Gd.go (fun _ w_k => XS.goto X24.here hx rfl (pc0 := 72) (pc' := 10) rfl (hb hby d20_72) (by decide) (by decide) (XS.aloadN X24.here hx rfl (hb hby d20_10) rfl rfl w_k)) ?_
    show Gd _ _ _ _ (T24.setTop (mkF m 11 #[.val (.ref (ad 0))] [(.ref (ad 0))]))
    obtain ⟨T28, X28, e28, st28⟩ := getF X24 hx hZ hown (host := "") (Or.inl (ow hw 124 rfl)) Via.refl e24 H25.2.2.2.2.2.2.2.2.2.2.2.2.2.2.2.2.2.2.2.1 (g := (mkF m 11 #[.val (.ref (ad 0))] [(.ref (ad 0))])) rfl rfl (hb hby d20_11)
    refine Gd.go (fun _ w_k => st28 _ (XS.aloadN X28.here hx rfl (hb hby d20_14) rfl rfl w_k)) ?_
    show Gd _ _ _ _ (T28.setTop (mkF m 15 #[.val (.ref (ad 0))] [(.ref (ad 0)), (.int (3 : Int32))]))
    obtain ⟨T29, X29, e29, st29⟩ := getF X28 hx hZ hown (host := "") (Or.inl (ow hw 24 rfl)) Via.refl e28 H25.2.2.2.2.2.2.1 (g := (mkF m 15 #[.val (.ref (ad 0))] [(.ref (ad 0)), (.int (3 : Int32))])) rfl rfl (hb hby d20_15)
    refine Gd.go (fun _ w_k => st29 _ (own_getR X29 hx hZ hown (ow hw 78 rfl) e29 H25.2.2.2.2.2.2.2.2.2.2.2.2.2.2.2.2.2.2.2.2.2.2.2.2.2.2.1 (g := (mkF m 18 #[.val (.ref (ad 0))] [(.ref (ad 2)), (.int (3 : Int32))])) rfl rfl (hb hby d20_18) _ (XS.icmpYes X29.here hx rfl (pc0 := 21) (pc' := 75) rfl (hb hby d20_21) rfl (flt (by decide)).2.1 (by decide) (by decide) w_k))) ?_
    show Gd _ _ _ _ (T29.setTop (mkF m 75 #[.val (.ref (ad 0))] []))
    refine Gd.go (fun _ w_k => XS.aloadN X29.here hx rfl (hb hby d20_75) rfl rfl w_k) ?_
    show Gd _ _ _ _ (T29.setTop (mkF m 76 #[.val (.ref (ad 0))] [(.ref (ad 0))]))
    obtain ⟨T30, X30, e30, st30⟩ := getF X29 hx hZ hown (host := "") (Or.inl (ow hw 124 rfl)) Via.refl e29 H25.2.2.2.2.2.2.2.2.2.2.2.2.2.2.2.2.2.2.2.1 (g := (mkF m 76 #[.val (.ref (ad 0))] [(.ref (ad 0))])) rfl rfl (hb hby d20_76)
    refine Gd.go (fun _ w_k => st30 _ (XS.aloadN X30.here hx rfl (hb hby d20_79) rfl rfl w_k)) ?_
    show Gd _ _ _ _ (T30.setTop (mkF m 80 #[.val (.ref (ad 0))] [(.ref (ad 0)), (.int (3 : Int32))]))
    obtain ⟨T31, X31, e31, st31⟩ := getF X30 hx hZ hown (host := "") (Or.inl (ow hw 24 rfl)) Via.refl e30 H25.2.2.2.2.2.2.1 (g := (mkF m 80 #[.val (.ref (ad 0))] [(.ref (ad 0)), (.int (3 : Int32))])) rfl rfl (hb hby d20_80)
    refine Gd.go (fun _ w_k => st31 _ (own_getR X31 hx hZ hown (ow hw 78 rfl) e31 H25.2.2.2.2.2.2.2.2.2.2.2.2.2.2.2.2.2.2.2.2.2.2.2.2.2.2.1 (g := (mkF m 83 #[.val (.ref (ad 0))] [(.ref (ad 2)), (.int (3 : Int32))])) rfl rfl (hb hby d20_83) _ (XS.icmpYes X31.here hx rfl (pc0 := 86) (pc' := 105) rfl (hb hby d20_86) rfl (flt (by decide)).2.1 (by decide) (by decide) w_k))) ?_
    show Gd _ _ _ _ (T31.setTop (mkF m 105 #[.val (.ref (ad 0))] []))
    refine own_retV X31 hx hret hlk (hb hby d20_105) ?_ (by decide) (by decide)
    have q1 : (if (own_k v_k0 v_k1 v_k2 ((v_l22 &&& (3 : Int64)).toInt32)) = (0 : Int32) then (2 : Int32) else (3 : Int32)) = (3 : Int32) := by simp only [eq_false hk14, if_true, if_false]
    have q2 : (if (own_k v_k0 v_k1 v_k2 ((v_l22 &&& (3 : Int64)).toInt32)) = (0 : Int32) then v_l22 else v_nx) = v_nx := by simp only [eq_false hk14, if_true, if_false]
    rw [e31, q1, q2]
    exact ⟨rfl, H25, xK27, xN26⟩
set_option maxRecDepth 65536 in
set_option maxHeartbeats 40000000 in
theorem own_c20_2 (l : Launch) (Z : State) (a0 : Array Value) (hw : ∀ d ∈ tables_1, d.before a0 Z = true) (h0 : Heap) (n0 : Nat) (ad : Nat → Addr) (v_mg : Addr) (v_ra : Int32) (v_fa : Int32) (v_fk : Int32) (v_an : Int32) (v_nx : Int64) (v_c1 : Int32) (v_c3 : Int32) (v_l10 : Int64) (v_l11 : Int64) (v_l12 : Int64) (v_l20 : Int64) (v_l21 : Int64) (v_l22 : Int64) (v_l30 : Int64) (v_l31 : Int64) (v_l32 : Int64) (v_i10 : Int32) (v_i11 : Int32) (v_i12 : Int32) (v_i30 : Int32) (v_i31 : Int32) (v_i32 : Int32) (v_k0 : Int32) (v_k1 : Int32) (v_k2 : Int32) (g0 : own_ix ((v_l20 &&& (3 : Int64)).toInt32)) (g1 : own_ix ((v_l21 &&& (3 : Int64)).toInt32)) (g2 : own_ix ((v_l22 &&& (3 : Int64)).toInt32)) (H : own_H Z h0 n0 ad (ad 2) v_mg v_ra v_fa v_fk v_an (2 : Int32) v_nx v_c1 (3 : Int32) v_c3 v_l10 v_l11 v_l12 v_l20 v_l21 v_l22 v_l30 v_l31 v_l32 v_i10 v_i11 v_i12 (0 : Int32) (0 : Int32) (0 : Int32) v_i30 v_i31 v_i32 v_k0 v_k1 v_k2) :
    Con l Z (⟨"com/example/nearfield/nearfield/job/RankedReads", "next", "()V"⟩ : MethodName) prog_98_method_21_code 1 none [] ({ frames := 0, cells := 0, slots := 0, locals := 0 } : Room) 0 0 #[(.ref (ad 0))] h0 (fun r h L => r = none ∧ own_H Z h n0 ad (ad 2) v_mg v_ra v_fa v_fk v_an (3 : Int32) v_nx v_c1 (3 : Int32) v_c3 v_l10 v_l11 v_l12 v_l20 v_l21 v_l22 v_l30 v_l31 v_l32 v_i10 v_i11 v_i12 (0 : Int32) (0 : Int32) (0 : Int32) v_i30 v_i31 v_i32 v_k0 v_k1 v_k2 ∧ Keep h0 h [ad 0] ∧ Fr n0 L) := by
  refine Con.of own_pn6 ?_
  intro pg ev s_ m bl mt cd s₁ hx hby hml hown hnm hret hlk hZ X0 e0
  rw [ef_20]
  show Gd _ _ _ _ (s₁.setTop (mkF m 0 #[.val (.ref (ad 0))] []))
  have N0 := Fr.nil n0
  have K0 := Keep.refl h0 [(ad 0)]
  refine Gd.go (fun _ w_k => XS.aloadN X0.here hx rfl (hb hby d20_0) rfl rfl (XS.dup X0.here hx rfl (hb hby d20_1) rfl rfl w_k)) ?_
  show Gd _ _ _ _ (s₁.setTop (mkF m 2 #[.val (.ref (ad 0))] [(.ref (ad 0)), (.ref (ad 0))]))
  obtain ⟨T1, X1, e1, st1⟩ := getF X0 hx hZ hown (host := "") (Or.inl (ow hw 124 rfl)) Via.refl e0 H.2.2.2.2.2.2.2.2.2.2.2.2.2.2.2.2.2.2.2.1 (g := (mkF m 2 #[.val (.ref (ad 0))] [(.ref (ad 0)), (.ref (ad 0))])) rfl rfl (hb hby d20_2)
  refine Gd.go (fun _ w_k => st1 _ (XS.iconst X1.here hx rfl (hb hby d20_5) (XS.iadd X1.here hx rfl (hb hby d20_6) rfl w_k))) ?_
  show Gd _ _ _ _ (T1.setTop (mkF m 7 #[.val (.ref (ad 0))] [(.int ((2 : Int32) + (1 : Int32))), (.ref (ad 0))]))
  rw [show ((2 : Int32) + (1 : Int32)) = (3 : Int32) from by decide]
  show Gd _ _ _ _ (T1.setTop (mkF m 7 #[.val (.ref (ad 0))] [(.int (3 : Int32)), (.ref (ad 0))]))
  obtain ⟨T2, h2, X2, e2, W2, st2⟩ := putF X1 hx hZ hown (host := "") (Or.inl (ow hw 124 rfl)) Via.refl e1 H.2.2.2.2.2.2.2.2.2.2.2.2.2.2.2.2.2.2.2.1 H.2.2.1 (Or.inl (ow hw 125 rfl)) (ow hw 3 rfl) (ty := .int) (by decide) rfl rfl (g := (mkF m 7 #[.val (.ref (ad 0))] [(.int (3 : Int32)), (.ref (ad 0))])) rfl rfl (hb hby d20_7)
  refine Gd.go (fun _ w_k => st2 _ w_k) ?_
  have H3 := own_w_at hw H W2
  have xN4 := Fr.snoc X2 N0 (H.2.1 0 (by decide))
  have xK5 := Keep.wr K0 W2 (Or.inl (by simp))
  show Gd _ _ _ _ (T2.setTop (mkF m 10 #[.val (.ref (ad 0))] []))
  refine Gd.go (fun _ w_k => XS.aloadN X2.here hx rfl (hb hby d20_10) rfl rfl w_k) ?_
  show Gd _ _ _ _ (T2.setTop (mkF m 11 #[.val (.ref (ad 0))] [(.ref (ad 0))]))
  obtain ⟨T6, X6, e6, st6⟩ := getF X2 hx hZ hown (host := "") (Or.inl (ow hw 124 rfl)) Via.refl e2 H3.2.2.2.2.2.2.2.2.2.2.2.2.2.2.2.2.2.2.2.1 (g := (mkF m 11 #[.val (.ref (ad 0))] [(.ref (ad 0))])) rfl rfl (hb hby d20_11)
  refine Gd.go (fun _ w_k => st6 _ (XS.aloadN X6.here hx rfl (hb hby d20_14) rfl rfl w_k)) ?_
  show Gd _ _ _ _ (T6.setTop (mkF m 15 #[.val (.ref (ad 0))] [(.ref (ad 0)), (.int (3 : Int32))]))
  obtain ⟨T7, X7, e7, st7⟩ := getF X6 hx hZ hown (host := "") (Or.inl (ow hw 24 rfl)) Via.refl e6 H3.2.2.2.2.2.2.1 (g := (mkF m 15 #[.val (.ref (ad 0))] [(.ref (ad 0)), (.int (3 : Int32))])) rfl rfl (hb hby d20_15)
  refine Gd.go (fun _ w_k => st7 _ (own_getR X7 hx hZ hown (ow hw 78 rfl) e7 H3.2.2.2.2.2.2.2.2.2.2.2.2.2.2.2.2.2.2.2.2.2.2.2.2.2.2.1 (g := (mkF m 18 #[.val (.ref (ad 0))] [(.ref (ad 2)), (.int (3 : Int32))])) rfl rfl (hb hby d20_18) _ (XS.icmpYes X7.here hx rfl (pc0 := 21) (pc' := 75) rfl (hb hby d20_21) rfl (flt (by decide)).2.1 (by decide) (by decide) w_k))) ?_
  show Gd _ _ _ _ (T7.setTop (mkF m 75 #[.val (.ref (ad 0))] []))
  refine Gd.go (fun _ w_k => XS.aloadN X7.here hx rfl (hb hby d20_75) rfl rfl w_k) ?_
  show Gd _ _ _ _ (T7.setTop (mkF m 76 #[.val (.ref (ad 0))] [(.ref (ad 0))]))
  obtain ⟨T8, X8, e8, st8⟩ := getF X7 hx hZ hown (host := "") (Or.inl (ow hw 124 rfl)) Via.refl e7 H3.2.2.2.2.2.2.2.2.2.2.2.2.2.2.2.2.2.2.2.1 (g := (mkF m 76 #[.val (.ref (ad 0))] [(.ref (ad 0))])) rfl rfl (hb hby d20_76)
  refine Gd.go (fun _ w_k => st8 _ (XS.aloadN X8.here hx rfl (hb hby d20_79) rfl rfl w_k)) ?_
  show Gd _ _ _ _ (T8.setTop (mkF m 80 #[.val (.ref (ad 0))] [(.ref (ad 0)), (.int (3 : Int32))]))
  obtain ⟨T9, X9, e9, st9⟩ := getF X8 hx hZ hown (host := "") (Or.inl (ow hw 24 rfl)) Via.refl e8 H3.2.2.2.2.2.2.1 (g := (mkF m 80 #[.val (.ref (ad 0))] [(.ref (ad 0)), (.int (3 : Int32))])) rfl rfl (hb hby d20_80)
  refine Gd.go (fun _ w_k => st9 _ (own_getR X9 hx hZ hown (ow hw 78 rfl) e9 H3.2.2.2.2.2.2.2.2.2.2.2.2.2.2.2.2.2.2.2.2.2.2.2.2.2.2.1 (g := (mkF m 83 #[.val (.ref (ad 0))] [(.ref (ad 2)), (.int (3 : Int32))])) rfl rfl (hb hby d20_83) _ (XS.icmpYes X9.here hx rfl (pc0 := 86) (pc' := 105) rfl (hb hby d20_86) rfl (flt (by decide)).2.1 (by decide) (by decide) w_k))) ?_
  show Gd _ _ _ _ (T9.setTop (mkF m 105 #[.val (.ref (ad 0))] []))
  refine own_retV X9 hx hret hlk (hb hby d20_105) ?_ (by decide) (by decide)
  rw [e9]
  exact ⟨rfl, H3, xK5, xN4⟩
theorem own_pn7 : plainFor (⟨"com/example/nearfield/nearfield/job/RankedReads$Run", "clear", "()V"⟩ : MethodName) = true := by first | exact plainFor_of_name (by first | (simp [plainName, overriddenIn, x]; done) | decide +kernel) | decide +kernel
theorem ef_17 (m : MethodId) (q0 : Addr) : entryFrame m #[(.ref q0)] 1 = mkF m 0 #[.val (.ref q0)] [] := by first | (simp [entryFrame, mkF, argsToLocals, Value.category, maxLocals]; done) | rfl
theorem d17_0 : decode prog_99_method_2_code 0 = .ok (.aload_n 0, 1) := by decide +kernel
theorem d17_1 : decode prog_99_method_2_code 1 = .ok (.iconst 0, 1) := by decide +kernel
theorem d17_2 : decode prog_99_method_2_code 2 = .ok (.putfield 17, 3) := by decide +kernel
theorem own_w_c2 {Z : State} {a0 : Array Value} (hw : ∀ d ∈ tables_1, d.before a0 Z = true) {h h' : Heap} {n0 : Nat} {ad : Nat → Addr} {v_rn v_mg : Addr} {v_ra v_fa v_fk v_an v_at v_c1 v_c2 v_c3 v_i10 v_i11 v_i12 v_i20 v_i21 v_i22 v_i30 v_i31 v_i32 v_k0 v_k1 v_k2 : Int32} {v_nx v_l10 v_l11 v_l12 v_l20 v_l21 v_l22 v_l30 v_l31 v_l32 : Int64} {v : Int32} (H : own_H Z h n0 ad v_rn v_mg v_ra v_fa v_fk v_an v_at v_nx v_c1 v_c2 v_c3 v_l10 v_l11 v_l12 v_l20 v_l21 v_l22 v_l30 v_l31 v_l32 v_i10 v_i11 v_i12 v_i20 v_i21 v_i22 v_i30 v_i31 v_i32 v_k0 v_k1 v_k2) (W : Wr h h' (ad 2) (Jvm.RoadKit.slotOf Z "com/example/nearfield/nearfield/job/RankedReads$Run" "count" "I") (.int v)) : own_H Z h' n0 ad v_rn v_mg v_ra v_fa v_fk v_an v_at v_nx v_c1 v v_c3 v_l10 v_l11 v_l12 v_l20 v_l21 v_l22 v_l30 v_l31 v_l32 v_i10 v_i11 v_i12 v_i20 v_i21 v_i22 v_i30 v_i31 v_i32 v_k0 v_k1 v_k2 := by
  obtain ⟨hinj, hge, E0, E1, E2, E3, r_run, r_merged, r_fresh, r_serverBits, r_freeBits, r_serverMask, r_mostFree, r_mostSpend, r_runAt, r_freshAt, r_freshKept, r_ranking, r_rankedAnew, r_at, r_next, u1_rank, u1_ranking, u1_count, u2_rank, u2_ranking, u2_count, u3_rank, u3_ranking, u3_count, a_l1, a_l2, a_l3, a_i1, a_i2, a_i3, a_k⟩ := H
  exact ⟨hinj, hge, E0.wr W, E1.wr W, E2.wr W, E3.wr W, r_run.other W (Or.inl (on hinj 0 2 rfl)), r_merged.other W (Or.inl (on hinj 0 2 rfl)), r_fresh.other W (Or.inl (on hinj 0 2 rfl)), r_serverBits.other W (Or.inl (on hinj 0 2 rfl)), r_freeBits.other W (Or.inl (on hinj 0 2 rfl)), r_serverMask.other W (Or.inl (on hinj 0 2 rfl)), r_mostFree.other W (Or.inl (on hinj 0 2 rfl)), r_mostSpend.other W (Or.inl (on hinj 0 2 rfl)), r_runAt.other W (Or.inl (on hinj 0 2 rfl)), r_freshAt.other W (Or.inl (on hinj 0 2 rfl)), r_freshKept.other W (Or.inl (on hinj 0 2 rfl)), r_ranking.other W (Or.inl (on hinj 0 2 rfl)), r_rankedAnew.other W (Or.inl (on hinj 0 2 rfl)), r_at.other W (Or.inl (on hinj 0 2 rfl)), r_next.other W (Or.inl (on hinj 0 2 rfl)), u1_rank.other W (Or.inl (on hinj 1 2 rfl)), u1_ranking.other W (Or.inl (on hinj 1 2 rfl)), u1_count.other W (Or.inl (on hinj 1 2 rfl)), u2_rank.other W (Or.inr (slot_ne (Or.inl (ow hw 20 rfl)) (Or.inl (ow hw 72 rfl)) (by decide) (t := (.array .long)) (t' := .int) (by decide) (by decide))), u2_ranking.other W (Or.inr (slot_ne (Or.inl (ow hw 23 rfl)) (Or.inl (ow hw 72 rfl)) (by decide) (t := (.array .int)) (t' := .int) (by decide) (by decide))), u2_count.same W, u3_rank.other W (Or.inl (on hinj 3 2 rfl)), u3_ranking.other W (Or.inl (on hinj 3 2 rfl)), u3_count.other W (Or.inl (on hinj 3 2 rfl)), a_l1.other W (on hinj 4 2 rfl), a_l2.other W (on hinj 5 2 rfl), a_l3.other W (on hinj 6 2 rfl), a_i1.other W (on hinj 7 2 rfl), a_i2.other W (on hinj 8 2 rfl), a_i3.other W (on hinj 9 2 rfl), a_k.other W (on hinj 10 2 rfl)⟩
theorem d17_5 : decode prog_99_method_2_code 5 = .ok (.return_, 1) := by decide +kernel
set_option maxRecDepth 65536 in
set_option maxHeartbeats 40000000 in
theorem own_c17_2 (l : Launch) (Z : State) (a0 : Array Value) (hw : ∀ d ∈ tables_1, d.before a0 Z = true) (h0 : Heap) (n0 : Nat) (ad : Nat → Addr) (v_rn : Addr) (v_mg : Addr) (v_ra : Int32) (v_fa : Int32) (v_fk : Int32) (v_an : Int32) (v_at : Int32) (v_nx : Int64) (v_c1 : Int32) (v_c2 : Int32) (v_c3 : Int32) (v_l10 : Int64) (v_l11 : Int64) (v_l12 : Int64) (v_l20 : Int64) (v_l21 : Int64) (v_l22 : Int64) (v_l30 : Int64) (v_l31 : Int64) (v_l32 : Int64) (v_i10 : Int32) (v_i11 : Int32) (v_i12 : Int32) (v_i20 : Int32) (v_i21 : Int32) (v_i22 : Int32) (v_i30 : Int32) (v_i31 : Int32) (v_i32 : Int32) (v_k0 : Int32) (v_k1 : Int32) (v_k2 : Int32) (H : own_H Z h0 n0 ad v_rn v_mg v_ra v_fa v_fk v_an v_at v_nx v_c1 v_c2 v_c3 v_l10 v_l11 v_l12 v_l20 v_l21 v_l22 v_l30 v_l31 v_l32 v_i10 v_i11 v_i12 v_i20 v_i21 v_i22 v_i30 v_i31 v_i32 v_k0 v_k1 v_k2) :
    Con l Z (⟨"com/example/nearfield/nearfield/job/RankedReads$Run", "clear", "()V"⟩ : MethodName) prog_99_method_2_code 1 none [] ({ frames := 0, cells := 0, slots := 0, locals := 0 } : Room) 0 0 #[(.ref (ad 2))] h0 (fun r h L => r = none ∧ own_H Z h n0 ad v_rn v_mg v_ra v_fa v_fk v_an v_at v_nx v_c1 (0 : Int32) v_c3 v_l10 v_l11 v_l12 v_l20 v_l21 v_l22 v_l30 v_l31 v_l32 v_i10 v_i11 v_i12 v_i20 v_i21 v_i22 v_i30 v_i31 v_i32 v_k0 v_k1 v_k2 ∧ Fr n0 L) := by
  refine Con.of own_pn7 ?_
  intro pg ev s_ m bl mt cd s₁ hx hby hml hown hnm hret hlk hZ X0 e0
  rw [ef_17]
  show Gd _ _ _ _ (s₁.setTop (mkF m 0 #[.val (.ref (ad 2))] []))
  have N0 := Fr.nil n0
  refine Gd.go (fun _ w_k => XS.aloadN X0.here hx rfl (hb hby d17_0) rfl rfl (XS.iconst X0.here hx rfl (hb hby d17_1) w_k)) ?_
  show Gd _ _ _ _ (s₁.setTop (mkF m 2 #[.val (.ref (ad 2))] [(.int (0 : Int32)), (.ref (ad 2))]))
  obtain ⟨T1, h1, X1, e1, W1, st1⟩ := putF X0 hx hZ hown (host := "") (Or.inl (ow hw 71 rfl)) Via.refl e0 H.2.2.2.2.2.2.2.2.2.2.2.2.2.2.2.2.2.2.2.2.2.2.2.2.2.2.1 H.2.2.2.2.1 (Or.inl (ow hw 72 rfl)) (ow hw 12 rfl) (ty := .int) (by decide) rfl rfl (g := (mkF m 2 #[.val (.ref (ad 2))] [(.int (0 : Int32)), (.ref (ad 2))])) rfl rfl (hb hby d17_2)
  refine Gd.go (fun _ w_k => st1 _ w_k) ?_
  have H2 := own_w_c2 hw H W1
  have xN3 := Fr.snoc X1 N0 (H.2.1 2 (by decide))
  show Gd _ _ _ _ (T1.setTop (mkF m 5 #[.val (.ref (ad 2))] []))
  refine own_retV X1 hx hret hlk (hb hby d17_5) ?_ (by decide) (by decide)
  rw [e1]
  exact ⟨rfl, H2, xN3⟩
theorem own_w_c3 {Z : State} {a0 : Array Value} (hw : ∀ d ∈ tables_1, d.before a0 Z = true) {h h' : Heap} {n0 : Nat} {ad : Nat → Addr} {v_rn v_mg : Addr} {v_ra v_fa v_fk v_an v_at v_c1 v_c2 v_c3 v_i10 v_i11 v_i12 v_i20 v_i21 v_i22 v_i30 v_i31 v_i32 v_k0 v_k1 v_k2 : Int32} {v_nx v_l10 v_l11 v_l12 v_l20 v_l21 v_l22 v_l30 v_l31 v_l32 : Int64} {v : Int32} (H : own_H Z h n0 ad v_rn v_mg v_ra v_fa v_fk v_an v_at v_nx v_c1 v_c2 v_c3 v_l10 v_l11 v_l12 v_l20 v_l21 v_l22 v_l30 v_l31 v_l32 v_i10 v_i11 v_i12 v_i20 v_i21 v_i22 v_i30 v_i31 v_i32 v_k0 v_k1 v_k2) (W : Wr h h' (ad 3) (Jvm.RoadKit.slotOf Z "com/example/nearfield/nearfield/job/RankedReads$Run" "count" "I") (.int v)) : own_H Z h' n0 ad v_rn v_mg v_ra v_fa v_fk v_an v_at v_nx v_c1 v_c2 v v_l10 v_l11 v_l12 v_l20 v_l21 v_l22 v_l30 v_l31 v_l32 v_i10 v_i11 v_i12 v_i20 v_i21 v_i22 v_i30 v_i31 v_i32 v_k0 v_k1 v_k2 := by
  obtain ⟨hinj, hge, E0, E1, E2, E3, r_run, r_merged, r_fresh, r_serverBits, r_freeBits, r_serverMask, r_mostFree, r_mostSpend, r_runAt, r_freshAt, r_freshKept, r_ranking, r_rankedAnew, r_at, r_next, u1_rank, u1_ranking, u1_count, u2_rank, u2_ranking, u2_count, u3_rank, u3_ranking, u3_count, a_l1, a_l2, a_l3, a_i1, a_i2, a_i3, a_k⟩ := H
  exact ⟨hinj, hge, E0.wr W, E1.wr W, E2.wr W, E3.wr W, r_run.other W (Or.inl (on hinj 0 3 rfl)), r_merged.other W (Or.inl (on hinj 0 3 rfl)), r_fresh.other W (Or.inl (on hinj 0 3 rfl)), r_serverBits.other W (Or.inl (on hinj 0 3 rfl)), r_freeBits.other W (Or.inl (on hinj 0 3 rfl)), r_serverMask.other W (Or.inl (on hinj 0 3 rfl)), r_mostFree.other W (Or.inl (on hinj 0 3 rfl)), r_mostSpend.other W (Or.inl (on hinj 0 3 rfl)), r_runAt.other W (Or.inl (on hinj 0 3 rfl)), r_freshAt.other W (Or.inl (on hinj 0 3 rfl)), r_freshKept.other W (Or.inl (on hinj 0 3 rfl)), r_ranking.other W (Or.inl (on hinj 0 3 rfl)), r_rankedAnew.other W (Or.inl (on hinj 0 3 rfl)), r_at.other W (Or.inl (on hinj 0 3 rfl)), r_next.other W (Or.inl (on hinj 0 3 rfl)), u1_rank.other W (Or.inl (on hinj 1 3 rfl)), u1_ranking.other W (Or.inl (on hinj 1 3 rfl)), u1_count.other W (Or.inl (on hinj 1 3 rfl)), u2_rank.other W (Or.inl (on hinj 2 3 rfl)), u2_ranking.other W (Or.inl (on hinj 2 3 rfl)), u2_count.other W (Or.inl (on hinj 2 3 rfl)), u3_rank.other W (Or.inr (slot_ne (Or.inl (ow hw 20 rfl)) (Or.inl (ow hw 72 rfl)) (by decide) (t := (.array .long)) (t' := .int) (by decide) (by decide))), u3_ranking.other W (Or.inr (slot_ne (Or.inl (ow hw 23 rfl)) (Or.inl (ow hw 72 rfl)) (by decide) (t := (.array .int)) (t' := .int) (by decide) (by decide))), u3_count.same W, a_l1.other W (on hinj 4 3 rfl), a_l2.other W (on hinj 5 3 rfl), a_l3.other W (on hinj 6 3 rfl), a_i1.other W (on hinj 7 3 rfl), a_i2.other W (on hinj 8 3 rfl), a_i3.other W (on hinj 9 3 rfl), a_k.other W (on hinj 10 3 rfl)⟩
set_option maxRecDepth 65536 in
set_option maxHeartbeats 40000000 in
theorem own_c17_3 (l : Launch) (Z : State) (a0 : Array Value) (hw : ∀ d ∈ tables_1, d.before a0 Z = true) (h0 : Heap) (n0 : Nat) (ad : Nat → Addr) (v_rn : Addr) (v_mg : Addr) (v_ra : Int32) (v_fa : Int32) (v_fk : Int32) (v_an : Int32) (v_at : Int32) (v_nx : Int64) (v_c1 : Int32) (v_c2 : Int32) (v_c3 : Int32) (v_l10 : Int64) (v_l11 : Int64) (v_l12 : Int64) (v_l20 : Int64) (v_l21 : Int64) (v_l22 : Int64) (v_l30 : Int64) (v_l31 : Int64) (v_l32 : Int64) (v_i10 : Int32) (v_i11 : Int32) (v_i12 : Int32) (v_i20 : Int32) (v_i21 : Int32) (v_i22 : Int32) (v_i30 : Int32) (v_i31 : Int32) (v_i32 : Int32) (v_k0 : Int32) (v_k1 : Int32) (v_k2 : Int32) (H : own_H Z h0 n0 ad v_rn v_mg v_ra v_fa v_fk v_an v_at v_nx v_c1 v_c2 v_c3 v_l10 v_l11 v_l12 v_l20 v_l21 v_l22 v_l30 v_l31 v_l32 v_i10 v_i11 v_i12 v_i20 v_i21 v_i22 v_i30 v_i31 v_i32 v_k0 v_k1 v_k2) :
    Con l Z (⟨"com/example/nearfield/nearfield/job/RankedReads$Run", "clear", "()V"⟩ : MethodName) prog_99_method_2_code 1 none [] ({ frames := 0, cells := 0, slots := 0, locals := 0 } : Room) 0 0 #[(.ref (ad 3))] h0 (fun r h L => r = none ∧ own_H Z h n0 ad v_rn v_mg v_ra v_fa v_fk v_an v_at v_nx v_c1 v_c2 (0 : Int32) v_l10 v_l11 v_l12 v_l20 v_l21 v_l22 v_l30 v_l31 v_l32 v_i10 v_i11 v_i12 v_i20 v_i21 v_i22 v_i30 v_i31 v_i32 v_k0 v_k1 v_k2 ∧ Fr n0 L) := by
  refine Con.of own_pn7 ?_
  intro pg ev s_ m bl mt cd s₁ hx hby hml hown hnm hret hlk hZ X0 e0
  rw [ef_17]
  show Gd _ _ _ _ (s₁.setTop (mkF m 0 #[.val (.ref (ad 3))] []))
  have N0 := Fr.nil n0
  refine Gd.go (fun _ w_k => XS.aloadN X0.here hx rfl (hb hby d17_0) rfl rfl (XS.iconst X0.here hx rfl (hb hby d17_1) w_k)) ?_
  show Gd _ _ _ _ (s₁.setTop (mkF m 2 #[.val (.ref (ad 3))] [(.int (0 : Int32)), (.ref (ad 3))]))
  obtain ⟨T1, h1, X1, e1, W1, st1⟩ := putF X0 hx hZ hown (host := "") (Or.inl (ow hw 71 rfl)) Via.refl e0 H.2.2.2.2.2.2.2.2.2.2.2.2.2.2.2.2.2.2.2.2.2.2.2.2.2.2.2.2.2.1 H.2.2.2.2.2.1 (Or.inl (ow hw 72 rfl)) (ow hw 12 rfl) (ty := .int) (by decide) rfl rfl (g := (mkF m 2 #[.val (.ref (ad 3))] [(.int (0 : Int32)), (.ref (ad 3))])) rfl rfl (hb hby d17_2)
  refine Gd.go (fun _ w_k => st1 _ w_k) ?_
  have H2 := own_w_c3 hw H W1
  have xN3 := Fr.snoc X1 N0 (H.2.1 3 (by decide))
  show Gd _ _ _ _ (T1.setTop (mkF m 5 #[.val (.ref (ad 3))] []))
  refine own_retV X1 hx hret hlk (hb hby d17_5) ?_ (by decide) (by decide)
  rw [e1]
  exact ⟨rfl, H2, xN3⟩
theorem own_pn8 : plainFor (⟨"com/example/nearfield/nearfield/job/RankedReads$Run", "ensure", "(I)V"⟩ : MethodName) = true := by first | exact plainFor_of_name (by first | (simp [plainName, overriddenIn, x]; done) | decide +kernel) | decide +kernel
theorem ef_18 (m : MethodId) (q0 : Addr) (q1 : Int32) : entryFrame m #[(.ref q0), (.int q1)] 2 = mkF m 0 #[.val (.ref q0), .val (.int q1)] [] := by first | (simp [entryFrame, mkF, argsToLocals, Value.category, maxLocals]; done) | rfl
theorem d18_0 : decode prog_99_method_3_code 0 = .ok (.aload_n 0, 1) := by decide +kernel
theorem d18_1 : decode prog_99_method_3_code 1 = .ok (.getfield 7, 3) := by decide +kernel
theorem d18_4 : decode prog_99_method_3_code 4 = .ok (.arraylength, 1) := by decide +kernel
theorem d18_5 : decode prog_99_method_3_code 5 = .ok (.iload_n 1, 1) := by decide +kernel
theorem d18_6 : decode prog_99_method_3_code 6 = .ok (.if_icmp .ge 41, 3) := by decide +kernel
theorem d18_47 : decode prog_99_method_3_code 47 = .ok (.return_, 1) := by decide +kernel
set_option maxRecDepth 65536 in
set_option maxHeartbeats 40000000 in
theorem own_c18 (l : Launch) (Z : State) (a0 : Array Value) (hw : ∀ d ∈ tables_1, d.before a0 Z = true) (h0 : Heap) (n0 : Nat) (ad : Nat → Addr) (v_rn : Addr) (v_mg : Addr) (v_ra : Int32) (v_fa : Int32) (v_fk : Int32) (v_an : Int32) (v_at : Int32) (v_nx : Int64) (v_c1 : Int32) (v_c2 : Int32) (v_c3 : Int32) (v_l10 : Int64) (v_l11 : Int64) (v_l12 : Int64) (v_l20 : Int64) (v_l21 : Int64) (v_l22 : Int64) (v_l30 : Int64) (v_l31 : Int64) (v_l32 : Int64) (v_i10 : Int32) (v_i11 : Int32) (v_i12 : Int32) (v_i20 : Int32) (v_i21 : Int32) (v_i22 : Int32) (v_i30 : Int32) (v_i31 : Int32) (v_i32 : Int32) (v_k0 : Int32) (v_k1 : Int32) (v_k2 : Int32) (H : own_H Z h0 n0 ad v_rn v_mg v_ra v_fa v_fk v_an v_at v_nx v_c1 v_c2 v_c3 v_l10 v_l11 v_l12 v_l20 v_l21 v_l22 v_l30 v_l31 v_l32 v_i10 v_i11 v_i12 v_i20 v_i21 v_i22 v_i30 v_i31 v_i32 v_k0 v_k1 v_k2) :
    Con l Z (⟨"com/example/nearfield/nearfield/job/RankedReads$Run", "ensure", "(I)V"⟩ : MethodName) prog_99_method_3_code 2 none [] ({ frames := 0, cells := 0, slots := 0, locals := 0 } : Room) 0 0 #[(.ref (ad 2)), (.int (3 : Int32))] h0 (fun r h L => r = none ∧ h = h0 ∧ L = []) := by
  refine Con.of own_pn8 ?_
  intro pg ev s_ m bl mt cd s₁ hx hby hml hown hnm hret hlk hZ X0 e0
  rw [ef_18]
  show Gd _ _ _ _ (s₁.setTop (mkF m 0 #[.val (.ref (ad 2)), .val (.int (3 : Int32))] []))
  have N0 := Fr.nil n0
  refine Gd.go (fun _ w_k => XS.aloadN X0.here hx rfl (hb hby d18_0) rfl rfl w_k) ?_
  show Gd _ _ _ _ (s₁.setTop (mkF m 1 #[.val (.ref (ad 2)), .val (.int (3 : Int32))] [(.ref (ad 2))]))
  obtain ⟨T1, X1, e1, st1⟩ := getF X0 hx hZ hown (host := "") (Or.inl (ow hw 19 rfl)) Via.refl e0 H.2.2.2.2.2.2.2.2.2.2.2.2.2.2.2.2.2.2.2.2.2.2.2.2.1 (g := (mkF m 1 #[.val (.ref (ad 2)), .val (.int (3 : Int32))] [(.ref (ad 2))])) rfl rfl (hb hby d18_1)
  refine Gd.go (fun _ w_k => st1 _ (own_len X1 hx hZ e1 H.2.2.2.2.2.2.2.2.2.2.2.2.2.2.2.2.2.2.2.2.2.2.2.2.2.2.2.2.2.2.2.1 (z := (16 : Int32)) rfl (g := (mkF m 4 #[.val (.ref (ad 2)), .val (.int (3 : Int32))] [(.ref (ad 5))])) rfl rfl (hb hby d18_4) _ (XS.iloadN X1.here hx rfl (hb hby d18_5) rfl (XS.icmpYes X1.here hx rfl (pc0 := 6) (pc' := 47) rfl (hb hby d18_6) rfl (flt (by decide)).2.1 (by decide) (by decide) w_k)))) ?_
  show Gd _ _ _ _ (T1.setTop (mkF m 47 #[.val (.ref (ad 2)), .val (.int (3 : Int32))] []))
  refine own_retV X1 hx hret hlk (hb hby d18_47) ?_ (by decide) (by decide)
  exact ⟨rfl, e1, rfl⟩
theorem own_pn9 : plainFor (⟨"com/example/nearfield/nearfield/job/RankedReads", "fits", "(JJ)Z"⟩ : MethodName) = true := by first | exact plainFor_of_name (by first | (simp [plainName, overriddenIn, x]; done) | decide +kernel) | decide +kernel
theorem ef_8 (m : MethodId) (q0 : Addr) (q1 : Int64) (q2 : Int64) : entryFrame m #[(.ref q0), (.long q1), (.long q2)] 5 = mkF m 0 #[.val (.ref q0), .val (.long q1), .second, .val (.long q2), .second] [] := by first | (simp [entryFrame, mkF, argsToLocals, Value.category, maxLocals]; done) | rfl
theorem d8_0 : decode prog_98_method_2_code 0 = .ok (.lload_n 1, 1) := by decide +kernel
theorem d8_1 : decode prog_98_method_2_code 1 = .ok (.lconst 0, 1) := by decide +kernel
theorem d8_2 : decode prog_98_method_2_code 2 = .ok (.lcmp, 1) := by decide +kernel
theorem d8_3 : decode prog_98_method_2_code 3 = .ok (.ifCond .lt 31, 3) := by decide +kernel
theorem d8_6 : decode prog_98_method_2_code 6 = .ok (.lload_n 1, 1) := by decide +kernel
theorem d8_7 : decode prog_98_method_2_code 7 = .ok (.aload_n 0, 1) := by decide +kernel
theorem d8_8 : decode prog_98_method_2_code 8 = .ok (.getfield 50, 3) := by decide +kernel
theorem d8_11 : decode prog_98_method_2_code 11 = .ok (.lcmp, 1) := by decide +kernel
theorem d8_12 : decode prog_98_method_2_code 12 = .ok (.ifCond .gt 22, 3) := by decide +kernel
theorem d8_15 : decode prog_98_method_2_code 15 = .ok (.lload_n 3, 1) := by decide +kernel
theorem d8_16 : decode prog_98_method_2_code 16 = .ok (.lconst 0, 1) := by decide +kernel
theorem d8_17 : decode prog_98_method_2_code 17 = .ok (.lcmp, 1) := by decide +kernel
theorem d8_18 : decode prog_98_method_2_code 18 = .ok (.ifCond .lt 16, 3) := by decide +kernel
theorem d8_21 : decode prog_98_method_2_code 21 = .ok (.lload_n 3, 1) := by decide +kernel
theorem d8_22 : decode prog_98_method_2_code 22 = .ok (.aload_n 0, 1) := by decide +kernel
theorem d8_23 : decode prog_98_method_2_code 23 = .ok (.getfield 47, 3) := by decide +kernel
theorem d8_26 : decode prog_98_method_2_code 26 = .ok (.lcmp, 1) := by decide +kernel
theorem d8_27 : decode prog_98_method_2_code 27 = .ok (.ifCond .gt 7, 3) := by decide +kernel
theorem d8_30 : decode prog_98_method_2_code 30 = .ok (.iconst 1, 1) := by decide +kernel
theorem d8_31 : decode prog_98_method_2_code 31 = .ok (.goto 4, 3) := by decide +kernel
theorem d8_35 : decode prog_98_method_2_code 35 = .ok (.ireturn, 1) := by decide +kernel
set_option maxRecDepth 65536 in
set_option maxHeartbeats 40000000 in
theorem own_c8 (l : Launch) (Z : State) (a0 : Array Value) (hw : ∀ d ∈ tables_1, d.before a0 Z = true) (h0 : Heap) (n0 : Nat) (ad : Nat → Addr) (v_rn : Addr) (v_mg : Addr) (v_ra : Int32) (v_fa : Int32) (v_fk : Int32) (v_an : Int32) (v_at : Int32) (v_nx : Int64) (v_c1 : Int32) (v_c2 : Int32) (v_c3 : Int32) (v_l10 : Int64) (v_l11 : Int64) (v_l12 : Int64) (v_l20 : Int64) (v_l21 : Int64) (v_l22 : Int64) (v_l30 : Int64) (v_l31 : Int64) (v_l32 : Int64) (v_i10 : Int32) (v_i11 : Int32) (v_i12 : Int32) (v_i20 : Int32) (v_i21 : Int32) (v_i22 : Int32) (v_i30 : Int32) (v_i31 : Int32) (v_i32 : Int32) (v_k0 : Int32) (v_k1 : Int32) (v_k2 : Int32) (H : own_H Z h0 n0 ad v_rn v_mg v_ra v_fa v_fk v_an v_at v_nx v_c1 v_c2 v_c3 v_l10 v_l11 v_l12 v_l20 v_l21 v_l22 v_l30 v_l31 v_l32 v_i10 v_i11 v_i12 v_i20 v_i21 v_i22 v_i30 v_i31 v_i32 v_k0 v_k1 v_k2) (u f : Int64) (hu : 0 ≤ u.toInt ∧ u.toInt ≤ 2147483647) (hf : 0 ≤ f.toInt ∧ f.toInt ≤ 1073741823) :
    Con l Z (⟨"com/example/nearfield/nearfield/job/RankedReads", "fits", "(JJ)Z"⟩ : MethodName) prog_98_method_2_code 5 (some .boolean) [] ({ frames := 0, cells := 0, slots := 0, locals := 0 } : Room) 0 0 #[(.ref (ad 0)), (.long u), (.long f)] h0 (fun r h L => r = some (.int (1 : Int32)) ∧ h = h0 ∧ L = []) := by
  refine Con.of own_pn9 ?_
  intro pg ev s_ m bl mt cd s₁ hx hby hml hown hnm hret hlk hZ X0 e0
  rw [ef_8]
  show Gd _ _ _ _ (s₁.setTop (mkF m 0 #[.val (.ref (ad 0)), .val (.long u), .second, .val (.long f), .second] []))
  have N0 := Fr.nil n0
  refine Gd.go (fun _ w_k => XS.lloadN X0.here hx rfl (hb hby d8_0) rfl (XS.lconst X0.here hx rfl (hb hby d8_1) (XS.lcmp X0.here hx rfl (hb hby d8_2) rfl (XS.ifNo X0.here hx rfl (hb hby d8_3) rfl ((if0 _ _).trans (flt (fun q => (show ¬ (u < (0 : Int64)) from by rw [Int64.lt_iff_toInt_lt]; have z0 : (0 : Int64).toInt = 0 := rfl; have z1 : (2147483647 : Int64).toInt = 2147483647 := rfl; have z2 : (1073741823 : Int64).toInt = 1073741823 := rfl; omega) ((lw_lt _ _).mp q))).1) w_k)))) ?_
  show Gd _ _ _ _ (s₁.setTop (mkF m 6 #[.val (.ref (ad 0)), .val (.long u), .second, .val (.long f), .second] []))
  refine Gd.go (fun _ w_k => XS.lloadN X0.here hx rfl (hb hby d8_6) rfl (XS.aloadN X0.here hx rfl (hb hby d8_7) rfl rfl w_k)) ?_
  show Gd _ _ _ _ (s₁.setTop (mkF m 8 #[.val (.ref (ad 0)), .val (.long u), .second, .val (.long f), .second] [(.ref (ad 0)), (.long u)]))
  obtain ⟨T1, X1, e1, st1⟩ := getF X0 hx hZ hown (host := "") (Or.inl (ow hw 47 rfl)) Via.refl e0 H.2.2.2.2.2.2.2.2.2.2.2.2.2.1 (g := (mkF m 8 #[.val (.ref (ad 0)), .val (.long u), .second, .val (.long f), .second] [(.ref (ad 0)), (.long u)])) rfl rfl (hb hby d8_8)
  refine Gd.go (fun _ w_k => st1 _ (XS.lcmp X1.here hx rfl (hb hby d8_11) rfl (XS.ifNo X1.here hx rfl (hb hby d8_12) rfl ((if0 _ _).trans (flt (fun q => (show ¬ ((2147483647 : Int64) < u) from by rw [Int64.lt_iff_toInt_lt]; have z0 : (0 : Int64).toInt = 0 := rfl; have z1 : (2147483647 : Int64).toInt = 2147483647 := rfl; have z2 : (1073741823 : Int64).toInt = 1073741823 := rfl; omega) ((lw_gt _ _).mp q))).2.2.1) w_k))) ?_
  show Gd _ _ _ _ (T1.setTop (mkF m 15 #[.val (.ref (ad 0)), .val (.long u), .second, .val (.long f), .second] []))
  refine Gd.go (fun _ w_k => XS.lloadN X1.here hx rfl (hb hby d8_15) rfl (XS.lconst X1.here hx rfl (hb hby d8_16) (XS.lcmp X1.here hx rfl (hb hby d8_17) rfl (XS.ifNo X1.here hx rfl (hb hby d8_18) rfl ((if0 _ _).trans (flt (fun q => (show ¬ (f < (0 : Int64)) from by rw [Int64.lt_iff_toInt_lt]; have z0 : (0 : Int64).toInt = 0 := rfl; have z1 : (2147483647 : Int64).toInt = 2147483647 := rfl; have z2 : (1073741823 : Int64).toInt = 1073741823 := rfl; omega) ((lw_lt _ _).mp q))).1) w_k)))) ?_
  show Gd _ _ _ _ (T1.setTop (mkF m 21 #[.val (.ref (ad 0)), .val (.long u), .second, .val (.long f), .second] []))
  refine Gd.go (fun _ w_k => XS.lloadN X1.here hx rfl (hb hby d8_21) rfl (XS.aloadN X1.here hx rfl (hb hby d8_22) rfl rfl w_k)) ?_
  show Gd _ _ _ _ (T1.setTop (mkF m 23 #[.val (.ref (ad 0)), .val (.long u), .second, .val (.long f), .second] [(.ref (ad 0)), (.long f)]))
  obtain ⟨T2, X2, e2, st2⟩ := getF X1 hx hZ hown (host := "") (Or.inl (ow hw 45 rfl)) Via.refl e1 H.2.2.2.2.2.2.2.2.2.2.2.2.1 (g := (mkF m 23 #[.val (.ref (ad 0)), .val (.long u), .second, .val (.long f), .second] [(.ref (ad 0)), (.long f)])) rfl rfl (hb hby d8_23)
  refine Gd.go (fun _ w_k => st2 _ (XS.lcmp X2.here hx rfl (hb hby d8_26) rfl (XS.ifNo X2.here hx rfl (hb hby d8_27) rfl ((if0 _ _).trans (flt (fun q => (show ¬ ((1073741823 : Int64) < f) from by rw [Int64.lt_iff_toInt_lt]; have z0 : (0 : Int64).toInt = 0 := rfl; have z1 : (2147483647 : Int64).toInt = 2147483647 := rfl; have z2 : (1073741823 : Int64).toInt = 1073741823 := rfl; omega) ((lw_gt _ _).mp q))).2.2.1) w_k))) ?_
  show Gd _ _ _ _ (T2.setTop (mkF m 30 #[.val (.ref (ad 0)), .val (.long u), .second, .val (.long f), .second] []))
  refine Gd.go (fun _ w_k => XS.iconst X2.here hx rfl (hb hby d8_30) (XS.goto X2.here hx rfl (pc0 := 31) (pc' := 35) rfl (hb hby d8_31) (by decide) (by decide) w_k)) ?_
  show Gd _ _ _ _ (T2.setTop (mkF m 35 #[.val (.ref (ad 0)), .val (.long u), .second, .val (.long f), .second] [(.int (1 : Int32))]))
  refine own_retN (t := .boolean) X2 hx hret hlk (by simp) (hb hby d8_35) ?_ (by decide) (by decide)
  exact ⟨rfl, e2, rfl⟩
theorem own_pn10 : plainFor (⟨"com/example/nearfield/nearfield/job/RankedReads", "packed", "(JJI)J"⟩ : MethodName) = true := by first | exact plainFor_of_name (by first | (simp [plainName, overriddenIn, x]; done) | decide +kernel) | decide +kernel
theorem ef_7 (m : MethodId) (q0 : Addr) (q1 : Int64) (q2 : Int64) (q3 : Int32) : entryFrame m #[(.ref q0), (.long q1), (.long q2), (.int q3)] 6 = mkF m 0 #[.val (.ref q0), .val (.long q1), .second, .val (.long q2), .second, .val (.int q3)] [] := by first | (simp [entryFrame, mkF, argsToLocals, Value.category, maxLocals]; done) | rfl
theorem d7_0 : decode prog_98_method_5_code 0 = .ok (.aload_n 0, 1) := by decide +kernel
theorem d7_1 : decode prog_98_method_5_code 1 = .ok (.lload_n 1, 1) := by decide +kernel
theorem d7_2 : decode prog_98_method_5_code 2 = .ok (.lload_n 3, 1) := by decide +kernel
theorem own_pd0 : parseMethodDescriptor "(JJ)Z" = some ⟨[.long, .long], some .boolean⟩ := by decide +kernel
theorem d7_3 : decode prog_98_method_5_code 3 = .ok (.invokevirtual 69, 3) := by decide +kernel
theorem d7_6 : decode prog_98_method_5_code 6 = .ok (.ifCond .eq 33, 3) := by decide +kernel
theorem d7_9 : decode prog_98_method_5_code 9 = .ok (.lload_n 1, 1) := by decide +kernel
theorem d7_10 : decode prog_98_method_5_code 10 = .ok (.aload_n 0, 1) := by decide +kernel
theorem d7_11 : decode prog_98_method_5_code 11 = .ok (.getfield 40, 3) := by decide +kernel
theorem d7_14 : decode prog_98_method_5_code 14 = .ok (.aload_n 0, 1) := by decide +kernel
theorem d7_15 : decode prog_98_method_5_code 15 = .ok (.getfield 34, 3) := by decide +kernel
theorem d7_18 : decode prog_98_method_5_code 18 = .ok (.iadd, 1) := by decide +kernel
theorem d7_19 : decode prog_98_method_5_code 19 = .ok (.lshl, 1) := by decide +kernel
theorem d7_20 : decode prog_98_method_5_code 20 = .ok (.aload_n 0, 1) := by decide +kernel
theorem d7_21 : decode prog_98_method_5_code 21 = .ok (.getfield 47, 3) := by decide +kernel
theorem d7_24 : decode prog_98_method_5_code 24 = .ok (.lload_n 3, 1) := by decide +kernel
theorem d7_25 : decode prog_98_method_5_code 25 = .ok (.lsub, 1) := by decide +kernel
theorem d7_26 : decode prog_98_method_5_code 26 = .ok (.aload_n 0, 1) := by decide +kernel
theorem d7_27 : decode prog_98_method_5_code 27 = .ok (.getfield 34, 3) := by decide +kernel
theorem d7_30 : decode prog_98_method_5_code 30 = .ok (.lshl, 1) := by decide +kernel
theorem d7_31 : decode prog_98_method_5_code 31 = .ok (.lor, 1) := by decide +kernel
theorem d7_32 : decode prog_98_method_5_code 32 = .ok (.iload 5, 2) := by decide +kernel
theorem d7_34 : decode prog_98_method_5_code 34 = .ok (.i2l, 1) := by decide +kernel
theorem d7_35 : decode prog_98_method_5_code 35 = .ok (.lor, 1) := by decide +kernel
theorem d7_36 : decode prog_98_method_5_code 36 = .ok (.goto 6, 3) := by decide +kernel
theorem d7_42 : decode prog_98_method_5_code 42 = .ok (.lreturn, 1) := by decide +kernel
set_option maxRecDepth 65536 in
set_option maxHeartbeats 40000000 in
theorem own_c7_0 (l : Launch) (Z : State) (a0 : Array Value) (hw : ∀ d ∈ tables_1, d.before a0 Z = true) (h0 : Heap) (n0 : Nat) (ad : Nat → Addr) (v_rn : Addr) (v_mg : Addr) (v_ra : Int32) (v_fa : Int32) (v_fk : Int32) (v_an : Int32) (v_at : Int32) (v_nx : Int64) (v_c1 : Int32) (v_c2 : Int32) (v_c3 : Int32) (v_l10 : Int64) (v_l11 : Int64) (v_l12 : Int64) (v_l20 : Int64) (v_l21 : Int64) (v_l22 : Int64) (v_l30 : Int64) (v_l31 : Int64) (v_l32 : Int64) (v_i10 : Int32) (v_i11 : Int32) (v_i12 : Int32) (v_i20 : Int32) (v_i21 : Int32) (v_i22 : Int32) (v_i30 : Int32) (v_i31 : Int32) (v_i32 : Int32) (v_k0 : Int32) (v_k1 : Int32) (v_k2 : Int32) (H : own_H Z h0 n0 ad v_rn v_mg v_ra v_fa v_fk v_an v_at v_nx v_c1 v_c2 v_c3 v_l10 v_l11 v_l12 v_l20 v_l21 v_l22 v_l30 v_l31 v_l32 v_i10 v_i11 v_i12 v_i20 v_i21 v_i22 v_i30 v_i31 v_i32 v_k0 v_k1 v_k2) (u f : Int64) (hu : 0 ≤ u.toInt ∧ u.toInt ≤ 2147483647) (hf : 0 ≤ f.toInt ∧ f.toInt ≤ 1073741823) :
    Con l Z (⟨"com/example/nearfield/nearfield/job/RankedReads", "packed", "(JJI)J"⟩ : MethodName) prog_98_method_5_code 6 (some .long) [] ({ frames := 1, cells := 0, slots := 0, locals := 16 } : Room) 0 0 #[(.ref (ad 0)), (.long u), (.long f), (.int (0 : Int32))] h0 (fun r h L => r = some (.long (own_q u f (0 : Int64))) ∧ h = h0 ∧ L = []) := by
  refine Con.of own_pn10 ?_
  intro pg ev s_ m bl mt cd s₁ hx hby hml hown hnm hret hlk hZ X0 e0
  rw [ef_7]
  show Gd _ _ _ _ (s₁.setTop (mkF m 0 #[.val (.ref (ad 0)), .val (.long u), .second, .val (.long f), .second, .val (.int (0 : Int32))] []))
  have N0 := Fr.nil n0
  refine Gd.go (fun _ w_k => XS.aloadN X0.here hx rfl (hb hby d7_0) rfl rfl (XS.lloadN X0.here hx rfl (hb hby d7_1) rfl (XS.lloadN X0.here hx rfl (hb hby d7_2) rfl w_k))) ?_
  show Gd _ _ _ _ (s₁.setTop (mkF m 3 #[.val (.ref (ad 0)), .val (.long u), .second, .val (.long f), .second, .val (.int (0 : Int32))] [(.long f), (.long u), (.ref (ad 0))]))
  obtain ⟨T1, X1, e1, st1⟩ := own_callVP X0 hx hZ (C := "com/example/nearfield/nearfield/job/RankedReads") (y := (⟨"com/example/nearfield/nearfield/job/RankedReads", "fits", "(JJ)Z"⟩ : MethodName)) hown (ow hw 61 rfl) (ow hw 62 rfl) (ow hw 64 rfl) (ow hw 63 rfl) (ow hw 4 rfl) (ow hw 65 rfl) (by decide) H.2.2.1 (W := 0) (own_c8 l Z a0 hw h0 n0 ad v_rn v_mg v_ra v_fa v_fk v_an v_at v_nx v_c1 v_c2 v_c3 v_l10 v_l11 v_l12 v_l20 v_l21 v_l22 v_l30 v_l31 v_l32 v_i10 v_i11 v_i12 v_i20 v_i21 v_i22 v_i30 v_i31 v_i32 v_k0 v_k1 v_k2 H u f hu hf) rfl rfl e0 (by decide) (by decide) (g := (mkF m 3 #[.val (.ref (ad 0)), .val (.long u), .second, .val (.long f), .second, .val (.int (0 : Int32))] [(.long f), (.long u), (.ref (ad 0))])) rfl (by rw [hml]; rfl) (argsL := [(.long u), (.long f)]) (rest := []) (lenOf own_pd0 rfl) rfl (Nat.le_of_eq rfl) (hb hby d7_3) rfl
  refine Gd.go (fun _ w_k => st1 _ (XS.ifNo X1.here hx rfl (hb hby d7_6) rfl ((if0 _ _).trans (feq (by decide)).1) w_k)) ?_
  show Gd _ _ _ _ (T1.setTop (mkF m 9 #[.val (.ref (ad 0)), .val (.long u), .second, .val (.long f), .second, .val (.int (0 : Int32))] []))
  refine Gd.go (fun _ w_k => XS.lloadN X1.here hx rfl (hb hby d7_9) rfl (XS.aloadN X1.here hx rfl (hb hby d7_10) rfl rfl w_k)) ?_
  show Gd _ _ _ _ (T1.setTop (mkF m 11 #[.val (.ref (ad 0)), .val (.long u), .second, .val (.long f), .second, .val (.int (0 : Int32))] [(.ref (ad 0)), (.long u)]))
  obtain ⟨T2, X2, e2, st2⟩ := getF X1 hx hZ hown (host := "") (Or.inl (ow hw 41 rfl)) Via.refl e1 H.2.2.2.2.2.2.2.2.2.2.1 (g := (mkF m 11 #[.val (.ref (ad 0)), .val (.long u), .second, .val (.long f), .second, .val (.int (0 : Int32))] [(.ref (ad 0)), (.long u)])) rfl rfl (hb hby d7_11)
  refine Gd.go (fun _ w_k => st2 _ (XS.aloadN X2.here hx rfl (hb hby d7_14) rfl rfl w_k)) ?_
  show Gd _ _ _ _ (T2.setTop (mkF m 15 #[.val (.ref (ad 0)), .val (.long u), .second, .val (.long f), .second, .val (.int (0 : Int32))] [(.ref (ad 0)), (.int (30 : Int32)), (.long u)]))
  obtain ⟨T3, X3, e3, st3⟩ := getF X2 hx hZ hown (host := "") (Or.inl (ow hw 39 rfl)) Via.refl e2 H.2.2.2.2.2.2.2.2.2.1 (g := (mkF m 15 #[.val (.ref (ad 0)), .val (.long u), .second, .val (.long f), .second, .val (.int (0 : Int32))] [(.ref (ad 0)), (.int (30 : Int32)), (.long u)])) rfl rfl (hb hby d7_15)
  refine Gd.go (fun _ w_k => st3 _ (XS.iadd X3.here hx rfl (hb hby d7_18) rfl w_k)) ?_
  show Gd _ _ _ _ (T3.setTop (mkF m 19 #[.val (.ref (ad 0)), .val (.long u), .second, .val (.long f), .second, .val (.int (0 : Int32))] [(.int ((30 : Int32) + (2 : Int32))), (.long u)]))
  rw [show ((30 : Int32) + (2 : Int32)) = (32 : Int32) from by decide]
  show Gd _ _ _ _ (T3.setTop (mkF m 19 #[.val (.ref (ad 0)), .val (.long u), .second, .val (.long f), .second, .val (.int (0 : Int32))] [(.int (32 : Int32)), (.long u)]))
  refine Gd.go (fun _ w_k => XS.lshl X3.here hx rfl (hb hby d7_19) rfl (XS.aloadN X3.here hx rfl (hb hby d7_20) rfl rfl w_k)) ?_
  show Gd _ _ _ _ (T3.setTop (mkF m 21 #[.val (.ref (ad 0)), .val (.long u), .second, .val (.long f), .second, .val (.int (0 : Int32))] [(.ref (ad 0)), (.long (u <<< ((32 : Int32) &&& 0x3f).toInt64))]))
  obtain ⟨T4, X4, e4, st4⟩ := getF X3 hx hZ hown (host := "") (Or.inl (ow hw 45 rfl)) Via.refl e3 H.2.2.2.2.2.2.2.2.2.2.2.2.1 (g := (mkF m 21 #[.val (.ref (ad 0)), .val (.long u), .second, .val (.long f), .second, .val (.int (0 : Int32))] [(.ref (ad 0)), (.long (u <<< ((32 : Int32) &&& 0x3f).toInt64))])) rfl rfl (hb hby d7_21)
  refine Gd.go (fun _ w_k => st4 _ (XS.lloadN X4.here hx rfl (hb hby d7_24) rfl (XS.lsub X4.here hx rfl (hb hby d7_25) rfl (XS.aloadN X4.here hx rfl (hb hby d7_26) rfl rfl w_k)))) ?_
  show Gd _ _ _ _ (T4.setTop (mkF m 27 #[.val (.ref (ad 0)), .val (.long u), .second, .val (.long f), .second, .val (.int (0 : Int32))] [(.ref (ad 0)), (.long ((1073741823 : Int64) - f)), (.long (u <<< ((32 : Int32) &&& 0x3f).toInt64))]))
  obtain ⟨T5, X5, e5, st5⟩ := getF X4 hx hZ hown (host := "") (Or.inl (ow hw 39 rfl)) Via.refl e4 H.2.2.2.2.2.2.2.2.2.1 (g := (mkF m 27 #[.val (.ref (ad 0)), .val (.long u), .second, .val (.long f), .second, .val (.int (0 : Int32))] [(.ref (ad 0)), (.long ((1073741823 : Int64) - f)), (.long (u <<< ((32 : Int32) &&& 0x3f).toInt64))])) rfl rfl (hb hby d7_27)
  refine Gd.go (fun _ w_k => st5 _ (XS.lshl X5.here hx rfl (hb hby d7_30) rfl (XS.lor X5.here hx rfl (hb hby d7_31) rfl (XS.iload X5.here hx rfl (hb hby d7_32) rfl (XS.i2l X5.here hx rfl (hb hby d7_34) rfl w_k))))) ?_
  show Gd _ _ _ _ (T5.setTop (mkF m 35 #[.val (.ref (ad 0)), .val (.long u), .second, .val (.long f), .second, .val (.int (0 : Int32))] [(.long ((0 : Int32).toInt64)), (.long ((u <<< ((32 : Int32) &&& 0x3f).toInt64) ||| (((1073741823 : Int64) - f) <<< ((2 : Int32) &&& 0x3f).toInt64)))]))
  rw [show ((0 : Int32).toInt64) = (0 : Int64) from by decide]
  show Gd _ _ _ _ (T5.setTop (mkF m 35 #[.val (.ref (ad 0)), .val (.long u), .second, .val (.long f), .second, .val (.int (0 : Int32))] [(.long (0 : Int64)), (.long ((u <<< ((32 : Int32) &&& 0x3f).toInt64) ||| (((1073741823 : Int64) - f) <<< ((2 : Int32) &&& 0x3f).toInt64)))]))
  refine Gd.go (fun _ w_k => XS.lor X5.here hx rfl (hb hby d7_35) rfl (XS.goto X5.here hx rfl (pc0 := 36) (pc' := 42) rfl (hb hby d7_36) (by decide) (by decide) w_k)) ?_
  show Gd _ _ _ _ (T5.setTop (mkF m 42 #[.val (.ref (ad 0)), .val (.long u), .second, .val (.long f), .second, .val (.int (0 : Int32))] [(.long (((u <<< ((32 : Int32) &&& 0x3f).toInt64) ||| (((1073741823 : Int64) - f) <<< ((2 : Int32) &&& 0x3f).toInt64)) ||| (0 : Int64)))]))
  refine own_retL X5 hx hret hlk (hb hby d7_42) ?_ (by decide) (by decide)
  exact ⟨rfl, e5, rfl⟩
theorem own_pn11 : plainFor (⟨"com/example/nearfield/nearfield/job/RankedReads$Run", "add", "(JI)V"⟩ : MethodName) = true := by first | exact plainFor_of_name (by first | (simp [plainName, overriddenIn, x]; done) | decide +kernel) | decide +kernel
theorem ef_9 (m : MethodId) (q0 : Addr) (q1 : Int64) (q2 : Int32) : entryFrame m #[(.ref q0), (.long q1), (.int q2)] 4 = mkF m 0 #[.val (.ref q0), .val (.long q1), .second, .val (.int q2)] [] := by first | (simp [entryFrame, mkF, argsToLocals, Value.category, maxLocals]; done) | rfl
theorem d9_0 : decode prog_99_method_4_code 0 = .ok (.aload_n 0, 1) := by decide +kernel
theorem d9_1 : decode prog_99_method_4_code 1 = .ok (.getfield 17, 3) := by decide +kernel
theorem d9_4 : decode prog_99_method_4_code 4 = .ok (.aload_n 0, 1) := by decide +kernel
theorem d9_5 : decode prog_99_method_4_code 5 = .ok (.getfield 7, 3) := by decide +kernel
theorem d9_8 : decode prog_99_method_4_code 8 = .ok (.arraylength, 1) := by decide +kernel
theorem d9_9 : decode prog_99_method_4_code 9 = .ok (.if_icmp .ne 37, 3) := by decide +kernel
theorem d9_46 : decode prog_99_method_4_code 46 = .ok (.aload_n 0, 1) := by decide +kernel
theorem d9_47 : decode prog_99_method_4_code 47 = .ok (.getfield 7, 3) := by decide +kernel
theorem d9_50 : decode prog_99_method_4_code 50 = .ok (.aload_n 0, 1) := by decide +kernel
theorem d9_51 : decode prog_99_method_4_code 51 = .ok (.getfield 17, 3) := by decide +kernel
theorem d9_54 : decode prog_99_method_4_code 54 = .ok (.lload_n 1, 1) := by decide +kernel
theorem d9_55 : decode prog_99_method_4_code 55 = .ok (.lastore, 1) := by decide +kernel
theorem own_w_l30 {Z : State} {a0 : Array Value} (hw : ∀ d ∈ tables_1, d.before a0 Z = true) {h h' : Heap} {n0 : Nat} {ad : Nat → Addr} {v_rn v_mg : Addr} {v_ra v_fa v_fk v_an v_at v_c1 v_c2 v_c3 v_i10 v_i11 v_i12 v_i20 v_i21 v_i22 v_i30 v_i31 v_i32 v_k0 v_k1 v_k2 : Int32} {v_nx v_l10 v_l11 v_l12 v_l20 v_l21 v_l22 v_l30 v_l31 v_l32 : Int64} {v : Int64} (H : own_H Z h n0 ad v_rn v_mg v_ra v_fa v_fk v_an v_at v_nx v_c1 v_c2 v_c3 v_l10 v_l11 v_l12 v_l20 v_l21 v_l22 v_l30 v_l31 v_l32 v_i10 v_i11 v_i12 v_i20 v_i21 v_i22 v_i30 v_i31 v_i32 v_k0 v_k1 v_k2) (W : Wr h h' (ad 6) (0 : Int32).toNatClampNeg (.long v)) : own_H Z h' n0 ad v_rn v_mg v_ra v_fa v_fk v_an v_at v_nx v_c1 v_c2 v_c3 v_l10 v_l11 v_l12 v_l20 v_l21 v_l22 v v_l31 v_l32 v_i10 v_i11 v_i12 v_i20 v_i21 v_i22 v_i30 v_i31 v_i32 v_k0 v_k1 v_k2 := by
  obtain ⟨hinj, hge, E0, E1, E2, E3, r_run, r_merged, r_fresh, r_serverBits, r_freeBits, r_serverMask, r_mostFree, r_mostSpend, r_runAt, r_freshAt, r_freshKept, r_ranking, r_rankedAnew, r_at, r_next, u1_rank, u1_ranking, u1_count, u2_rank, u2_ranking, u2_count, u3_rank, u3_ranking, u3_count, a_l1, a_l2, a_l3, a_i1, a_i2, a_i3, a_k⟩ := H
  exact ⟨hinj, hge, E0.wr W, E1.wr W, E2.wr W, E3.wr W, r_run.other W (Or.inl (on hinj 0 6 rfl)), r_merged.other W (Or.inl (on hinj 0 6 rfl)), r_fresh.other W (Or.inl (on hinj 0 6 rfl)), r_serverBits.other W (Or.inl (on hinj 0 6 rfl)), r_freeBits.other W (Or.inl (on hinj 0 6 rfl)), r_serverMask.other W (Or.inl (on hinj 0 6 rfl)), r_mostFree.other W (Or.inl (on hinj 0 6 rfl)), r_mostSpend.other W (Or.inl (on hinj 0 6 rfl)), r_runAt.other W (Or.inl (on hinj 0 6 rfl)), r_freshAt.other W (Or.inl (on hinj 0 6 rfl)), r_freshKept.other W (Or.inl (on hinj 0 6 rfl)), r_ranking.other W (Or.inl (on hinj 0 6 rfl)), r_rankedAnew.other W (Or.inl (on hinj 0 6 rfl)), r_at.other W (Or.inl (on hinj 0 6 rfl)), r_next.other W (Or.inl (on hinj 0 6 rfl)), u1_rank.other W (Or.inl (on hinj 1 6 rfl)), u1_ranking.other W (Or.inl (on hinj 1 6 rfl)), u1_count.other W (Or.inl (on hinj 1 6 rfl)), u2_rank.other W (Or.inl (on hinj 2 6 rfl)), u2_ranking.other W (Or.inl (on hinj 2 6 rfl)), u2_count.other W (Or.inl (on hinj 2 6 rfl)), u3_rank.other W (Or.inl (on hinj 3 6 rfl)), u3_ranking.other W (Or.inl (on hinj 3 6 rfl)), u3_count.other W (Or.inl (on hinj 3 6 rfl)), a_l1.other W (on hinj 4 6 rfl), a_l2.other W (on hinj 5 6 rfl), own_setJ0 (a_l3.set W), a_i1.other W (on hinj 7 6 rfl), a_i2.other W (on hinj 8 6 rfl), a_i3.other W (on hinj 9 6 rfl), a_k.other W (on hinj 10 6 rfl)⟩
theorem d9_56 : decode prog_99_method_4_code 56 = .ok (.aload_n 0, 1) := by decide +kernel
theorem d9_57 : decode prog_99_method_4_code 57 = .ok (.getfield 13, 3) := by decide +kernel
theorem d9_60 : decode prog_99_method_4_code 60 = .ok (.aload_n 0, 1) := by decide +kernel
theorem d9_61 : decode prog_99_method_4_code 61 = .ok (.getfield 17, 3) := by decide +kernel
theorem d9_64 : decode prog_99_method_4_code 64 = .ok (.iload_n 3, 1) := by decide +kernel
theorem d9_65 : decode prog_99_method_4_code 65 = .ok (.iastore, 1) := by decide +kernel
theorem own_w_i30 {Z : State} {a0 : Array Value} (hw : ∀ d ∈ tables_1, d.before a0 Z = true) {h h' : Heap} {n0 : Nat} {ad : Nat → Addr} {v_rn v_mg : Addr} {v_ra v_fa v_fk v_an v_at v_c1 v_c2 v_c3 v_i10 v_i11 v_i12 v_i20 v_i21 v_i22 v_i30 v_i31 v_i32 v_k0 v_k1 v_k2 : Int32} {v_nx v_l10 v_l11 v_l12 v_l20 v_l21 v_l22 v_l30 v_l31 v_l32 : Int64} {v : Int32} (H : own_H Z h n0 ad v_rn v_mg v_ra v_fa v_fk v_an v_at v_nx v_c1 v_c2 v_c3 v_l10 v_l11 v_l12 v_l20 v_l21 v_l22 v_l30 v_l31 v_l32 v_i10 v_i11 v_i12 v_i20 v_i21 v_i22 v_i30 v_i31 v_i32 v_k0 v_k1 v_k2) (W : Wr h h' (ad 9) (0 : Int32).toNatClampNeg (.int v)) : own_H Z h' n0 ad v_rn v_mg v_ra v_fa v_fk v_an v_at v_nx v_c1 v_c2 v_c3 v_l10 v_l11 v_l12 v_l20 v_l21 v_l22 v_l30 v_l31 v_l32 v_i10 v_i11 v_i12 v_i20 v_i21 v_i22 v v_i31 v_i32 v_k0 v_k1 v_k2 := by
  obtain ⟨hinj, hge, E0, E1, E2, E3, r_run, r_merged, r_fresh, r_serverBits, r_freeBits, r_serverMask, r_mostFree, r_mostSpend, r_runAt, r_freshAt, r_freshKept, r_ranking, r_rankedAnew, r_at, r_next, u1_rank, u1_ranking, u1_count, u2_rank, u2_ranking, u2_count, u3_rank, u3_ranking, u3_count, a_l1, a_l2, a_l3, a_i1, a_i2, a_i3, a_k⟩ := H
  exact ⟨hinj, hge, E0.wr W, E1.wr W, E2.wr W, E3.wr W, r_run.other W (Or.inl (on hinj 0 9 rfl)), r_merged.other W (Or.inl (on hinj 0 9 rfl)), r_fresh.other W (Or.inl (on hinj 0 9 rfl)), r_serverBits.other W (Or.inl (on hinj 0 9 rfl)), r_freeBits.other W (Or.inl (on hinj 0 9 rfl)), r_serverMask.other W (Or.inl (on hinj 0 9 rfl)), r_mostFree.other W (Or.inl (on hinj 0 9 rfl)), r_mostSpend.other W (Or.inl (on hinj 0 9 rfl)), r_runAt.other W (Or.inl (on hinj 0 9 rfl)), r_freshAt.other W (Or.inl (on hinj 0 9 rfl)), r_freshKept.other W (Or.inl (on hinj 0 9 rfl)), r_ranking.other W (Or.inl (on hinj 0 9 rfl)), r_rankedAnew.other W (Or.inl (on hinj 0 9 rfl)), r_at.other W (Or.inl (on hinj 0 9 rfl)), r_next.other W (Or.inl (on hinj 0 9 rfl)), u1_rank.other W (Or.inl (on hinj 1 9 rfl)), u1_ranking.other W (Or.inl (on hinj 1 9 rfl)), u1_count.other W (Or.inl (on hinj 1 9 rfl)), u2_rank.other W (Or.inl (on hinj 2 9 rfl)), u2_ranking.other W (Or.inl (on hinj 2 9 rfl)), u2_count.other W (Or.inl (on hinj 2 9 rfl)), u3_rank.other W (Or.inl (on hinj 3 9 rfl)), u3_ranking.other W (Or.inl (on hinj 3 9 rfl)), u3_count.other W (Or.inl (on hinj 3 9 rfl)), a_l1.other W (on hinj 4 9 rfl), a_l2.other W (on hinj 5 9 rfl), a_l3.other W (on hinj 6 9 rfl), a_i1.other W (on hinj 7 9 rfl), a_i2.other W (on hinj 8 9 rfl), own_setI0 (a_i3.set W), a_k.other W (on hinj 10 9 rfl)⟩
theorem d9_66 : decode prog_99_method_4_code 66 = .ok (.aload_n 0, 1) := by decide +kernel
theorem d9_67 : decode prog_99_method_4_code 67 = .ok (.dup, 1) := by decide +kernel
theorem d9_68 : decode prog_99_method_4_code 68 = .ok (.getfield 17, 3) := by decide +kernel
theorem d9_71 : decode prog_99_method_4_code 71 = .ok (.iconst 1, 1) := by decide +kernel
theorem d9_72 : decode prog_99_method_4_code 72 = .ok (.iadd, 1) := by decide +kernel
theorem d9_73 : decode prog_99_method_4_code 73 = .ok (.putfield 17, 3) := by decide +kernel
theorem d9_76 : decode prog_99_method_4_code 76 = .ok (.return_, 1) := by decide +kernel
set_option maxRecDepth 65536 in
set_option maxHeartbeats 40000000 in
theorem own_c9_0 (l : Launch) (Z : State) (a0 : Array Value) (hw : ∀ d ∈ tables_1, d.before a0 Z = true) (h0 : Heap) (n0 : Nat) (ad : Nat → Addr) (pk : Int64) (of : Int32) (v_rn : Addr) (v_mg : Addr) (v_ra : Int32) (v_fa : Int32) (v_fk : Int32) (v_an : Int32) (v_at : Int32) (v_nx : Int64) (v_c1 : Int32) (v_c2 : Int32) (v_l10 : Int64) (v_l11 : Int64) (v_l12 : Int64) (v_l20 : Int64) (v_l21 : Int64) (v_l22 : Int64) (v_l30 : Int64) (v_l31 : Int64) (v_l32 : Int64) (v_i10 : Int32) (v_i11 : Int32) (v_i12 : Int32) (v_i20 : Int32) (v_i21 : Int32) (v_i22 : Int32) (v_i30 : Int32) (v_i31 : Int32) (v_i32 : Int32) (v_k0 : Int32) (v_k1 : Int32) (v_k2 : Int32) (H : own_H Z h0 n0 ad v_rn v_mg v_ra v_fa v_fk v_an v_at v_nx v_c1 v_c2 (0 : Int32) v_l10 v_l11 v_l12 v_l20 v_l21 v_l22 v_l30 v_l31 v_l32 v_i10 v_i11 v_i12 v_i20 v_i21 v_i22 v_i30 v_i31 v_i32 v_k0 v_k1 v_k2) :
    Con l Z (⟨"com/example/nearfield/nearfield/job/RankedReads$Run", "add", "(JI)V"⟩ : MethodName) prog_99_method_4_code 4 none [] ({ frames := 0, cells := 0, slots := 0, locals := 0 } : Room) 0 0 #[(.ref (ad 3)), (.long pk), (.int of)] h0 (fun r h L => r = none ∧ own_H Z h n0 ad v_rn v_mg v_ra v_fa v_fk v_an v_at v_nx v_c1 v_c2 (1 : Int32) v_l10 v_l11 v_l12 v_l20 v_l21 v_l22 pk v_l31 v_l32 v_i10 v_i11 v_i12 v_i20 v_i21 v_i22 of v_i31 v_i32 v_k0 v_k1 v_k2 ∧ Fr n0 L) := by
  refine Con.of own_pn11 ?_
  intro pg ev s_ m bl mt cd s₁ hx hby hml hown hnm hret hlk hZ X0 e0
  rw [ef_9]
  show Gd _ _ _ _ (s₁.setTop (mkF m 0 #[.val (.ref (ad 3)), .val (.long pk), .second, .val (.int of)] []))
  have N0 := Fr.nil n0
  refine Gd.go (fun _ w_k => XS.aloadN X0.here hx rfl (hb hby d9_0) rfl rfl w_k) ?_
  show Gd _ _ _ _ (s₁.setTop (mkF m 1 #[.val (.ref (ad 3)), .val (.long pk), .second, .val (.int of)] [(.ref (ad 3))]))
  obtain ⟨T1, X1, e1, st1⟩ := getF X0 hx hZ hown (host := "") (Or.inl (ow hw 71 rfl)) Via.refl e0 H.2.2.2.2.2.2.2.2.2.2.2.2.2.2.2.2.2.2.2.2.2.2.2.2.2.2.2.2.2.1 (g := (mkF m 1 #[.val (.ref (ad 3)), .val (.long pk), .second, .val (.int of)] [(.ref (ad 3))])) rfl rfl (hb hby d9_1)
  refine Gd.go (fun _ w_k => st1 _ (XS.aloadN X1.here hx rfl (hb hby d9_4) rfl rfl w_k)) ?_
  show Gd _ _ _ _ (T1.setTop (mkF m 5 #[.val (.ref (ad 3)), .val (.long pk), .second, .val (.int of)] [(.ref (ad 3)), (.int (0 : Int32))]))
  obtain ⟨T2, X2, e2, st2⟩ := getF X1 hx hZ hown (host := "") (Or.inl (ow hw 19 rfl)) Via.refl e1 H.2.2.2.2.2.2.2.2.2.2.2.2.2.2.2.2.2.2.2.2.2.2.2.2.2.2.2.1 (g := (mkF m 5 #[.val (.ref (ad 3)), .val (.long pk), .second, .val (.int of)] [(.ref (ad 3)), (.int (0 : Int32))])) rfl rfl (hb hby d9_5)
  refine Gd.go (fun _ w_k => st2 _ (own_len X2 hx hZ e2 H.2.2.2.2.2.2.2.2.2.2.2.2.2.2.2.2.2.2.2.2.2.2.2.2.2.2.2.2.2.2.2.2.1 (z := (16 : Int32)) rfl (g := (mkF m 8 #[.val (.ref (ad 3)), .val (.long pk), .second, .val (.int of)] [(.ref (ad 6)), (.int (0 : Int32))])) rfl rfl (hb hby d9_8) _ (XS.icmpYes X2.here hx rfl (pc0 := 9) (pc' := 46) rfl (hb hby d9_9) rfl (feq (by decide)).2 (by decide) (by decide) w_k))) ?_
  show Gd _ _ _ _ (T2.setTop (mkF m 46 #[.val (.ref (ad 3)), .val (.long pk), .second, .val (.int of)] []))
  refine Gd.go (fun _ w_k => XS.aloadN X2.here hx rfl (hb hby d9_46) rfl rfl w_k) ?_
  show Gd _ _ _ _ (T2.setTop (mkF m 47 #[.val (.ref (ad 3)), .val (.long pk), .second, .val (.int of)] [(.ref (ad 3))]))
  obtain ⟨T3, X3, e3, st3⟩ := getF X2 hx hZ hown (host := "") (Or.inl (ow hw 19 rfl)) Via.refl e2 H.2.2.2.2.2.2.2.2.2.2.2.2.2.2.2.2.2.2.2.2.2.2.2.2.2.2.2.1 (g := (mkF m 47 #[.val (.ref (ad 3)), .val (.long pk), .second, .val (.int of)] [(.ref (ad 3))])) rfl rfl (hb hby d9_47)
  refine Gd.go (fun _ w_k => st3 _ (XS.aloadN X3.here hx rfl (hb hby d9_50) rfl rfl w_k)) ?_
  show Gd _ _ _ _ (T3.setTop (mkF m 51 #[.val (.ref (ad 3)), .val (.long pk), .second, .val (.int of)] [(.ref (ad 3)), (.ref (ad 6))]))
  obtain ⟨T4, X4, e4, st4⟩ := getF X3 hx hZ hown (host := "") (Or.inl (ow hw 71 rfl)) Via.refl e3 H.2.2.2.2.2.2.2.2.2.2.2.2.2.2.2.2.2.2.2.2.2.2.2.2.2.2.2.2.2.1 (g := (mkF m 51 #[.val (.ref (ad 3)), .val (.long pk), .second, .val (.int of)] [(.ref (ad 3)), (.ref (ad 6))])) rfl rfl (hb hby d9_51)
  refine Gd.go (fun _ w_k => st4 _ (XS.lloadN X4.here hx rfl (hb hby d9_54) rfl w_k)) ?_
  show Gd _ _ _ _ (T4.setTop (mkF m 55 #[.val (.ref (ad 3)), .val (.long pk), .second, .val (.int of)] [(.long pk), (.int (0 : Int32)), (.ref (ad 6))]))
  obtain ⟨T5, h5, X5, e5, W5, st5⟩ := own_stJ X4 hx hZ e4 H.2.2.2.2.2.2.2.2.2.2.2.2.2.2.2.2.2.2.2.2.2.2.2.2.2.2.2.2.2.2.2.2.1 (j := (0 : Int32)) (by decide) (by decide) (g := (mkF m 55 #[.val (.ref (ad 3)), .val (.long pk), .second, .val (.int of)] [(.long pk), (.int (0 : Int32)), (.ref (ad 6))])) rfl rfl (hb hby d9_55)
  refine Gd.go (fun _ w_k => st5 _ w_k) ?_
  have H6 := own_w_l30 hw H W5
  have xN7 := Fr.snoc X5 N0 (H.2.1 6 (by decide))
  show Gd _ _ _ _ (T5.setTop (mkF m 56 #[.val (.ref (ad 3)), .val (.long pk), .second, .val (.int of)] []))
  refine Gd.go (fun _ w_k => XS.aloadN X5.here hx rfl (hb hby d9_56) rfl rfl w_k) ?_
  show Gd _ _ _ _ (T5.setTop (mkF m 57 #[.val (.ref (ad 3)), .val (.long pk), .second, .val (.int of)] [(.ref (ad 3))]))
  obtain ⟨T8, X8, e8, st8⟩ := getF X5 hx hZ hown (host := "") (Or.inl (ow hw 22 rfl)) Via.refl e5 H6.2.2.2.2.2.2.2.2.2.2.2.2.2.2.2.2.2.2.2.2.2.2.2.2.2.2.2.2.1 (g := (mkF m 57 #[.val (.ref (ad 3)), .val (.long pk), .second, .val (.int of)] [(.ref (ad 3))])) rfl rfl (hb hby d9_57)
  refine Gd.go (fun _ w_k => st8 _ (XS.aloadN X8.here hx rfl (hb hby d9_60) rfl rfl w_k)) ?_
  show Gd _ _ _ _ (T8.setTop (mkF m 61 #[.val (.ref (ad 3)), .val (.long pk), .second, .val (.int of)] [(.ref (ad 3)), (.ref (ad 9))]))
  obtain ⟨T9, X9, e9, st9⟩ := getF X8 hx hZ hown (host := "") (Or.inl (ow hw 71 rfl)) Via.refl e8 H6.2.2.2.2.2.2.2.2.2.2.2.2.2.2.2.2.2.2.2.2.2.2.2.2.2.2.2.2.2.1 (g := (mkF m 61 #[.val (.ref (ad 3)), .val (.long pk), .second, .val (.int of)] [(.ref (ad 3)), (.ref (ad 9))])) rfl rfl (hb hby d9_61)
  refine Gd.go (fun _ w_k => st9 _ (XS.iloadN X9.here hx rfl (hb hby d9_64) rfl w_k)) ?_
  show Gd _ _ _ _ (T9.setTop (mkF m 65 #[.val (.ref (ad 3)), .val (.long pk), .second, .val (.int of)] [(.int of), (.int (0 : Int32)), (.ref (ad 9))]))
  obtain ⟨T10, h10, X10, e10, W10, st10⟩ := own_stI X9 hx hZ e9 H6.2.2.2.2.2.2.2.2.2.2.2.2.2.2.2.2.2.2.2.2.2.2.2.2.2.2.2.2.2.2.2.2.2.2.2.1 (j := (0 : Int32)) (by decide) (by decide) (g := (mkF m 65 #[.val (.ref (ad 3)), .val (.long pk), .second, .val (.int of)] [(.int of), (.int (0 : Int32)), (.ref (ad 9))])) rfl rfl (hb hby d9_65)
  refine Gd.go (fun _ w_k => st10 _ w_k) ?_
  have H11 := own_w_i30 hw H6 W10
  have xN12 := Fr.snoc X10 xN7 (H.2.1 9 (by decide))
  show Gd _ _ _ _ (T10.setTop (mkF m 66 #[.val (.ref (ad 3)), .val (.long pk), .second, .val (.int of)] []))
  refine Gd.go (fun _ w_k => XS.aloadN X10.here hx rfl (hb hby d9_66) rfl rfl (XS.dup X10.here hx rfl (hb hby d9_67) rfl rfl w_k)) ?_
  show Gd _ _ _ _ (T10.setTop (mkF m 68 #[.val (.ref (ad 3)), .val (.long pk), .second, .val (.int of)] [(.ref (ad 3)), (.ref (ad 3))]))
  obtain ⟨T13, X13, e13, st13⟩ := getF X10 hx hZ hown (host := "") (Or.inl (ow hw 71 rfl)) Via.refl e10 H11.2.2.2.2.2.2.2.2.2.2.2.2.2.2.2.2.2.2.2.2.2.2.2.2.2.2.2.2.2.1 (g := (mkF m 68 #[.val (.ref (ad 3)), .val (.long pk), .second, .val (.int of)] [(.ref (ad 3)), (.ref (ad 3))])) rfl rfl (hb hby d9_68)
  refine Gd.go (fun _ w_k => st13 _ (XS.iconst X13.here hx rfl (hb hby d9_71) (XS.iadd X13.here hx rfl (hb hby d9_72) rfl w_k))) ?_
  show Gd _ _ _ _ (T13.setTop (mkF m 73 #[.val (.ref (ad 3)), .val (.long pk), .second, .val (.int of)] [(.int ((0 : Int32) + (1 : Int32))), (.ref (ad 3))]))
  rw [show ((0 : Int32) + (1 : Int32)) = (1 : Int32) from by decide]
  show Gd _ _ _ _ (T13.setTop (mkF m 73 #[.val (.ref (ad 3)), .val (.long pk), .second, .val (.int of)] [(.int (1 : Int32)), (.ref (ad 3))]))
  obtain ⟨T14, h14, X14, e14, W14, st14⟩ := putF X13 hx hZ hown (host := "") (Or.inl (ow hw 71 rfl)) Via.refl e13 H11.2.2.2.2.2.2.2.2.2.2.2.2.2.2.2.2.2.2.2.2.2.2.2.2.2.2.2.2.2.1 H11.2.2.2.2.2.1 (Or.inl (ow hw 72 rfl)) (ow hw 12 rfl) (ty := .int) (by decide) rfl rfl (g := (mkF m 73 #[.val (.ref (ad 3)), .val (.long pk), .second, .val (.int of)] [(.int (1 : Int32)), (.ref (ad 3))])) rfl rfl (hb hby d9_73)
  refine Gd.go (fun _ w_k => st14 _ w_k) ?_
  have H15 := own_w_c3 hw H11 W14
  have xN16 := Fr.snoc X14 xN12 (H.2.1 3 (by decide))
  show Gd _ _ _ _ (T14.setTop (mkF m 76 #[.val (.ref (ad 3)), .val (.long pk), .second, .val (.int of)] []))
  refine own_retV X14 hx hret hlk (hb hby d9_76) ?_ (by decide) (by decide)
  rw [e14]
  exact ⟨rfl, H15, xN16⟩
theorem own_pn12 : plainFor (⟨"com/example/nearfield/nearfield/job/RankedReads", "rank", "(JJI)V"⟩ : MethodName) = true := by first | exact plainFor_of_name (by first | (simp [plainName, overriddenIn, x]; done) | decide +kernel) | decide +kernel
theorem ef_6 (m : MethodId) (q0 : Addr) (q1 : Int64) (q2 : Int64) (q3 : Int32) : entryFrame m #[(.ref q0), (.long q1), (.long q2), (.int q3)] 6 = mkF m 0 #[.val (.ref q0), .val (.long q1), .second, .val (.long q2), .second, .val (.int q3)] [] := by first | (simp [entryFrame, mkF, argsToLocals, Value.category, maxLocals]; done) | rfl
theorem d6_0 : decode prog_98_method_4_code 0 = .ok (.aload_n 0, 1) := by decide +kernel
theorem d6_1 : decode prog_98_method_4_code 1 = .ok (.getfield 19, 3) := by decide +kernel
theorem d6_4 : decode prog_98_method_4_code 4 = .ok (.aload_n 0, 1) := by decide +kernel
theorem d6_5 : decode prog_98_method_4_code 5 = .ok (.lload_n 1, 1) := by decide +kernel
theorem d6_6 : decode prog_98_method_4_code 6 = .ok (.lload_n 3, 1) := by decide +kernel
theorem d6_7 : decode prog_98_method_4_code 7 = .ok (.iload 5, 2) := by decide +kernel
theorem own_pd1 : parseMethodDescriptor "(JJI)J" = some ⟨[.long, .long, .int], some .long⟩ := by decide +kernel
theorem d6_9 : decode prog_98_method_4_code 9 = .ok (.invokevirtual 61, 3) := by decide +kernel
theorem d6_12 : decode prog_98_method_4_code 12 = .ok (.aload_n 0, 1) := by decide +kernel
theorem d6_13 : decode prog_98_method_4_code 13 = .ok (.getfield 53, 3) := by decide +kernel
theorem d6_16 : decode prog_98_method_4_code 16 = .ok (.iload 5, 2) := by decide +kernel
theorem d6_18 : decode prog_98_method_4_code 18 = .ok (.iaload, 1) := by decide +kernel
theorem own_pd2 : parseMethodDescriptor "(JI)V" = some ⟨[.long, .int], none⟩ := by decide +kernel
theorem d6_19 : decode prog_98_method_4_code 19 = .ok (.invokevirtual 65, 3) := by decide +kernel
theorem d6_22 : decode prog_98_method_4_code 22 = .ok (.return_, 1) := by decide +kernel
set_option maxRecDepth 65536 in
set_option maxHeartbeats 40000000 in
theorem own_c6_0 (l : Launch) (Z : State) (a0 : Array Value) (hw : ∀ d ∈ tables_1, d.before a0 Z = true) (h0 : Heap) (n0 : Nat) (ad : Nat → Addr) (v_rn : Addr) (v_mg : Addr) (v_ra : Int32) (v_fa : Int32) (v_fk : Int32) (v_an : Int32) (v_at : Int32) (v_nx : Int64) (v_c1 : Int32) (v_c2 : Int32) (v_l10 : Int64) (v_l11 : Int64) (v_l12 : Int64) (v_l20 : Int64) (v_l21 : Int64) (v_l22 : Int64) (v_l30 : Int64) (v_l31 : Int64) (v_l32 : Int64) (v_i10 : Int32) (v_i11 : Int32) (v_i12 : Int32) (v_i20 : Int32) (v_i21 : Int32) (v_i22 : Int32) (v_i30 : Int32) (v_i31 : Int32) (v_i32 : Int32) (v_k0 : Int32) (v_k1 : Int32) (v_k2 : Int32) (H : own_H Z h0 n0 ad v_rn v_mg v_ra v_fa v_fk v_an v_at v_nx v_c1 v_c2 (0 : Int32) v_l10 v_l11 v_l12 v_l20 v_l21 v_l22 v_l30 v_l31 v_l32 v_i10 v_i11 v_i12 v_i20 v_i21 v_i22 v_i30 v_i31 v_i32 v_k0 v_k1 v_k2) (u f : Int64) (hu : 0 ≤ u.toInt ∧ u.toInt ≤ 2147483647) (hf : 0 ≤ f.toInt ∧ f.toInt ≤ 1073741823) :
    Con l Z (⟨"com/example/nearfield/nearfield/job/RankedReads", "rank", "(JJI)V"⟩ : MethodName) prog_98_method_4_code 6 none [] ({ frames := 2, cells := 0, slots := 0, locals := 34 } : Room) 0 0 #[(.ref (ad 0)), (.long u), (.long f), (.int (0 : Int32))] h0 (fun r h L => r = none ∧ own_H Z h n0 ad v_rn v_mg v_ra v_fa v_fk v_an v_at v_nx v_c1 v_c2 (1 : Int32) v_l10 v_l11 v_l12 v_l20 v_l21 v_l22 (own_q u f (0 : Int64)) v_l31 v_l32 v_i10 v_i11 v_i12 v_i20 v_i21 v_i22 v_k0 v_i31 v_i32 v_k0 v_k1 v_k2 ∧ Fr n0 L) := by
  refine Con.of own_pn12 ?_
  intro pg ev s_ m bl mt cd s₁ hx hby hml hown hnm hret hlk hZ X0 e0
  rw [ef_6]
  show Gd _ _ _ _ (s₁.setTop (mkF m 0 #[.val (.ref (ad 0)), .val (.long u), .second, .val (.long f), .second, .val (.int (0 : Int32))] []))
  have N0 := Fr.nil n0
  refine Gd.go (fun _ w_k => XS.aloadN X0.here hx rfl (hb hby d6_0) rfl rfl w_k) ?_
  show Gd _ _ _ _ (s₁.setTop (mkF m 1 #[.val (.ref (ad 0)), .val (.long u), .second, .val (.long f), .second, .val (.int (0 : Int32))] [(.ref (ad 0))]))
  obtain ⟨T1, X1, e1, st1⟩ := getF X0 hx hZ hown (host := "") (Or.inl (ow hw 28 rfl)) Via.refl e0 H.2.2.2.2.2.2.2.2.1 (g := (mkF m 1 #[.val (.ref (ad 0)), .val (.long u), .second, .val (.long f), .second, .val (.int (0 : Int32))] [(.ref (ad 0))])) rfl rfl (hb hby d6_1)
  refine Gd.go (fun _ w_k => st1 _ (XS.aloadN X1.here hx rfl (hb hby d6_4) rfl rfl (XS.lloadN X1.here hx rfl (hb hby d6_5) rfl (XS.lloadN X1.here hx rfl (hb hby d6_6) rfl (XS.iload X1.here hx rfl (hb hby d6_7) rfl w_k))))) ?_
  show Gd _ _ _ _ (T1.setTop (mkF m 9 #[.val (.ref (ad 0)), .val (.long u), .second, .val (.long f), .second, .val (.int (0 : Int32))] [(.int (0 : Int32)), (.long f), (.long u), (.ref (ad 0)), (.ref (ad 3))]))
  obtain ⟨T2, X2, e2, st2⟩ := own_callVP X1 hx hZ (C := "com/example/nearfield/nearfield/job/RankedReads") (y := (⟨"com/example/nearfield/nearfield/job/RankedReads", "packed", "(JJI)J"⟩ : MethodName)) hown (ow hw 56 rfl) (ow hw 57 rfl) (ow hw 59 rfl) (ow hw 58 rfl) (ow hw 4 rfl) (ow hw 60 rfl) (by decide) H.2.2.1 (W := 1) (own_c7_0 l Z a0 hw h0 n0 ad v_rn v_mg v_ra v_fa v_fk v_an v_at v_nx v_c1 v_c2 (0 : Int32) v_l10 v_l11 v_l12 v_l20 v_l21 v_l22 v_l30 v_l31 v_l32 v_i10 v_i11 v_i12 v_i20 v_i21 v_i22 v_i30 v_i31 v_i32 v_k0 v_k1 v_k2 H u f hu hf) rfl rfl e1 (by decide) (by decide) (g := (mkF m 9 #[.val (.ref (ad 0)), .val (.long u), .second, .val (.long f), .second, .val (.int (0 : Int32))] [(.int (0 : Int32)), (.long f), (.long u), (.ref (ad 0)), (.ref (ad 3))])) rfl (by rw [hml]; rfl) (argsL := [(.long u), (.long f), (.int (0 : Int32))]) (rest := [(.ref (ad 3))]) (lenOf own_pd1 rfl) rfl (Nat.le_of_eq rfl) (hb hby d6_9) rfl
  refine Gd.go (fun _ w_k => st2 _ (XS.aloadN X2.here hx rfl (hb hby d6_12) rfl rfl w_k)) ?_
  show Gd _ _ _ _ (T2.setTop (mkF m 13 #[.val (.ref (ad 0)), .val (.long u), .second, .val (.long f), .second, .val (.int (0 : Int32))] [(.ref (ad 0)), (.long (own_q u f (0 : Int64))), (.ref (ad 3))]))
  obtain ⟨T3, X3, e3, st3⟩ := getF X2 hx hZ hown (host := "") (Or.inl (ow hw 49 rfl)) Via.refl e2 H.2.2.2.2.2.2.2.2.2.2.2.2.2.2.2.2.2.1 (g := (mkF m 13 #[.val (.ref (ad 0)), .val (.long u), .second, .val (.long f), .second, .val (.int (0 : Int32))] [(.ref (ad 0)), (.long (own_q u f (0 : Int64))), (.ref (ad 3))])) rfl rfl (hb hby d6_13)
  refine Gd.go (fun _ w_k => st3 _ (XS.iload X3.here hx rfl (hb hby d6_16) rfl (own_ldI X3 hx hZ e3 H.2.2.2.2.2.2.2.2.2.2.2.2.2.2.2.2.2.2.2.2.2.2.2.2.2.2.2.2.2.2.2.2.2.2.2.2 (j := (0 : Int32)) (by decide) (by decide) (v := (.int v_k0)) rfl (g := (mkF m 18 #[.val (.ref (ad 0)), .val (.long u), .second, .val (.long f), .second, .val (.int (0 : Int32))] [(.int (0 : Int32)), (.ref (ad 10)), (.long (own_q u f (0 : Int64))), (.ref (ad 3))])) rfl rfl (hb hby d6_18) _ w_k))) ?_
  show Gd _ _ _ _ (T3.setTop (mkF m 19 #[.val (.ref (ad 0)), .val (.long u), .second, .val (.long f), .second, .val (.int (0 : Int32))] [(.int v_k0), (.long (own_q u f (0 : Int64))), (.ref (ad 3))]))
  obtain ⟨v4, T4, L4, X4, hQ4, st4⟩ := own_callV X3 hx hZ (C := "com/example/nearfield/nearfield/job/RankedReads$Run") (y := (⟨"com/example/nearfield/nearfield/job/RankedReads$Run", "add", "(JI)V"⟩ : MethodName)) hown (ow hw 66 rfl) (ow hw 67 rfl) (ow hw 69 rfl) (ow hw 68 rfl) (ow hw 13 rfl) (ow hw 70 rfl) (by decide) H.2.2.2.2.2.1 (W := 0) (own_c9_0 l Z a0 hw h0 n0 ad (own_q u f (0 : Int64)) v_k0 v_rn v_mg v_ra v_fa v_fk v_an v_at v_nx v_c1 v_c2 v_l10 v_l11 v_l12 v_l20 v_l21 v_l22 v_l30 v_l31 v_l32 v_i10 v_i11 v_i12 v_i20 v_i21 v_i22 v_i30 v_i31 v_i32 v_k0 v_k1 v_k2 H) rfl rfl e3 (by decide) (by decide) (g := (mkF m 19 #[.val (.ref (ad 0)), .val (.long u), .second, .val (.long f), .second, .val (.int (0 : Int32))] [(.int v_k0), (.long (own_q u f (0 : Int64))), (.ref (ad 3))])) rfl (by rw [hml]; rfl) (argsL := [(.long (own_q u f (0 : Int64))), (.int v_k0)]) (rest := []) (lenOf own_pd2 rfl) rfl (Nat.le_of_eq rfl) (hb hby d6_19) rfl (by decide) (by decide)
  obtain ⟨rfl, H9, N9⟩ := hQ4
  refine Gd.go (fun _ w_k => st4 _ w_k) ?_
  show Gd _ _ _ _ (T4.setTop (mkF m 22 #[.val (.ref (ad 0)), .val (.long u), .second, .val (.long f), .second, .val (.int (0 : Int32))] []))
  refine own_retV X4 hx hret hlk (hb hby d6_22) ?_ (by decide) (by decide)
  exact ⟨rfl, H9, (List.nil_append (α := Loc) _).symm ▸ N9⟩
set_option maxRecDepth 65536 in
set_option maxHeartbeats 40000000 in
theorem own_c7_1 (l : Launch) (Z : State) (a0 : Array Value) (hw : ∀ d ∈ tables_1, d.before a0 Z = true) (h0 : Heap) (n0 : Nat) (ad : Nat → Addr) (v_rn : Addr) (v_mg : Addr) (v_ra : Int32) (v_fa : Int32) (v_fk : Int32) (v_an : Int32) (v_at : Int32) (v_nx : Int64) (v_c1 : Int32) (v_c2 : Int32) (v_c3 : Int32) (v_l10 : Int64) (v_l11 : Int64) (v_l12 : Int64) (v_l20 : Int64) (v_l21 : Int64) (v_l22 : Int64) (v_l30 : Int64) (v_l31 : Int64) (v_l32 : Int64) (v_i10 : Int32) (v_i11 : Int32) (v_i12 : Int32) (v_i20 : Int32) (v_i21 : Int32) (v_i22 : Int32) (v_i30 : Int32) (v_i31 : Int32) (v_i32 : Int32) (v_k0 : Int32) (v_k1 : Int32) (v_k2 : Int32) (H : own_H Z h0 n0 ad v_rn v_mg v_ra v_fa v_fk v_an v_at v_nx v_c1 v_c2 v_c3 v_l10 v_l11 v_l12 v_l20 v_l21 v_l22 v_l30 v_l31 v_l32 v_i10 v_i11 v_i12 v_i20 v_i21 v_i22 v_i30 v_i31 v_i32 v_k0 v_k1 v_k2) (u f : Int64) (hu : 0 ≤ u.toInt ∧ u.toInt ≤ 2147483647) (hf : 0 ≤ f.toInt ∧ f.toInt ≤ 1073741823) :
    Con l Z (⟨"com/example/nearfield/nearfield/job/RankedReads", "packed", "(JJI)J"⟩ : MethodName) prog_98_method_5_code 6 (some .long) [] ({ frames := 1, cells := 0, slots := 0, locals := 16 } : Room) 0 0 #[(.ref (ad 0)), (.long u), (.long f), (.int (1 : Int32))] h0 (fun r h L => r = some (.long (own_q u f (1 : Int64))) ∧ h = h0 ∧ L = []) := by
  refine Con.of own_pn10 ?_
  intro pg ev s_ m bl mt cd s₁ hx hby hml hown hnm hret hlk hZ X0 e0
  rw [ef_7]
  show Gd _ _ _ _ (s₁.setTop (mkF m 0 #[.val (.ref (ad 0)), .val (.long u), .second, .val (.long f), .second, .val (.int (1 : Int32))] []))
  have N0 := Fr.nil n0
  refine Gd.go (fun _ w_k => XS.aloadN X0.here hx rfl (hb hby d7_0) rfl rfl (XS.lloadN X0.here hx rfl (hb hby d7_1) rfl (XS.lloadN X0.here hx rfl (hb hby d7_2) rfl w_k))) ?_
  show Gd _ _ _ _ (s₁.setTop (mkF m 3 #[.val (.ref (ad 0)), .val (.long u), .second, .val (.long f), .second, .val (.int (1 : Int32))] [(.long f), (.long u), (.ref (ad 0))]))
  obtain ⟨T1, X1, e1, st1⟩ := own_callVP X0 hx hZ (C := "com/example/nearfield/nearfield/job/RankedReads") (y := (⟨"com/example/nearfield/nearfield/job/RankedReads", "fits", "(JJ)Z"⟩ : MethodName)) hown (ow hw 61 rfl) (ow hw 62 rfl) (ow hw 64 rfl) (ow hw 63 rfl) (ow hw 4 rfl) (ow hw 65 rfl) (by decide) H.2.2.1 (W := 0) (own_c8 l Z a0 hw h0 n0 ad v_rn v_mg v_ra v_fa v_fk v_an v_at v_nx v_c1 v_c2 v_c3 v_l10 v_l11 v_l12 v_l20 v_l21 v_l22 v_l30 v_l31 v_l32 v_i10 v_i11 v_i12 v_i20 v_i21 v_i22 v_i30 v_i31 v_i32 v_k0 v_k1 v_k2 H u f hu hf) rfl rfl e0 (by decide) (by decide) (g := (mkF m 3 #[.val (.ref (ad 0)), .val (.long u), .second, .val (.long f), .second, .val (.int (1 : Int32))] [(.long f), (.long u), (.ref (ad 0))])) rfl (by rw [hml]; rfl) (argsL := [(.long u), (.long f)]) (rest := []) (lenOf own_pd0 rfl) rfl (Nat.le_of_eq rfl) (hb hby d7_3) rfl
  refine Gd.go (fun _ w_k => st1 _ (XS.ifNo X1.here hx rfl (hb hby d7_6) rfl ((if0 _ _).trans (feq (by decide)).1) w_k)) ?_
  show Gd _ _ _ _ (T1.setTop (mkF m 9 #[.val (.ref (ad 0)), .val (.long u), .second, .val (.long f), .second, .val (.int (1 : Int32))] []))
  refine Gd.go (fun _ w_k => XS.lloadN X1.here hx rfl (hb hby d7_9) rfl (XS.aloadN X1.here hx rfl (hb hby d7_10) rfl rfl w_k)) ?_
  show Gd _ _ _ _ (T1.setTop (mkF m 11 #[.val (.ref (ad 0)), .val (.long u), .second, .val (.long f), .second, .val (.int (1 : Int32))] [(.ref (ad 0)), (.long u)]))
  obtain ⟨T2, X2, e2, st2⟩ := getF X1 hx hZ hown (host := "") (Or.inl (ow hw 41 rfl)) Via.refl e1 H.2.2.2.2.2.2.2.2.2.2.1 (g := (mkF m 11 #[.val (.ref (ad 0)), .val (.long u), .second, .val (.long f), .second, .val (.int (1 : Int32))] [(.ref (ad 0)), (.long u)])) rfl rfl (hb hby d7_11)
  refine Gd.go (fun _ w_k => st2 _ (XS.aloadN X2.here hx rfl (hb hby d7_14) rfl rfl w_k)) ?_
  show Gd _ _ _ _ (T2.setTop (mkF m 15 #[.val (.ref (ad 0)), .val (.long u), .second, .val (.long f), .second, .val (.int (1 : Int32))] [(.ref (ad 0)), (.int (30 : Int32)), (.long u)]))
  obtain ⟨T3, X3, e3, st3⟩ := getF X2 hx hZ hown (host := "") (Or.inl (ow hw 39 rfl)) Via.refl e2 H.2.2.2.2.2.2.2.2.2.1 (g := (mkF m 15 #[.val (.ref (ad 0)), .val (.long u), .second, .val (.long f), .second, .val (.int (1 : Int32))] [(.ref (ad 0)), (.int (30 : Int32)), (.long u)])) rfl rfl (hb hby d7_15)
  refine Gd.go (fun _ w_k => st3 _ (XS.iadd X3.here hx rfl (hb hby d7_18) rfl w_k)) ?_
  show Gd _ _ _ _ (T3.setTop (mkF m 19 #[.val (.ref (ad 0)), .val (.long u), .second, .val (.long f), .second, .val (.int (1 : Int32))] [(.int ((30 : Int32) + (2 : Int32))), (.long u)]))
  rw [show ((30 : Int32) + (2 : Int32)) = (32 : Int32) from by decide]
  show Gd _ _ _ _ (T3.setTop (mkF m 19 #[.val (.ref (ad 0)), .val (.long u), .second, .val (.long f), .second, .val (.int (1 : Int32))] [(.int (32 : Int32)), (.long u)]))
  refine Gd.go (fun _ w_k => XS.lshl X3.here hx rfl (hb hby d7_19) rfl (XS.aloadN X3.here hx rfl (hb hby d7_20) rfl rfl w_k)) ?_
  show Gd _ _ _ _ (T3.setTop (mkF m 21 #[.val (.ref (ad 0)), .val (.long u), .second, .val (.long f), .second, .val (.int (1 : Int32))] [(.ref (ad 0)), (.long (u <<< ((32 : Int32) &&& 0x3f).toInt64))]))
  obtain ⟨T4, X4, e4, st4⟩ := getF X3 hx hZ hown (host := "") (Or.inl (ow hw 45 rfl)) Via.refl e3 H.2.2.2.2.2.2.2.2.2.2.2.2.1 (g := (mkF m 21 #[.val (.ref (ad 0)), .val (.long u), .second, .val (.long f), .second, .val (.int (1 : Int32))] [(.ref (ad 0)), (.long (u <<< ((32 : Int32) &&& 0x3f).toInt64))])) rfl rfl (hb hby d7_21)
  refine Gd.go (fun _ w_k => st4 _ (XS.lloadN X4.here hx rfl (hb hby d7_24) rfl (XS.lsub X4.here hx rfl (hb hby d7_25) rfl (XS.aloadN X4.here hx rfl (hb hby d7_26) rfl rfl w_k)))) ?_
  show Gd _ _ _ _ (T4.setTop (mkF m 27 #[.val (.ref (ad 0)), .val (.long u), .second, .val (.long f), .second, .val (.int (1 : Int32))] [(.ref (ad 0)), (.long ((1073741823 : Int64) - f)), (.long (u <<< ((32 : Int32) &&& 0x3f).toInt64))]))
  obtain ⟨T5, X5, e5, st5⟩ := getF X4 hx hZ hown (host := "") (Or.inl (ow hw 39 rfl)) Via.refl e4 H.2.2.2.2.2.2.2.2.2.1 (g := (mkF m 27 #[.val (.ref (ad 0)), .val (.long u), .second, .val (.long f), .second, .val (.int (1 : Int32))] [(.ref (ad 0)), (.long ((1073741823 : Int64) - f)), (.long (u <<< ((32 : Int32) &&& 0x3f).toInt64))])) rfl rfl (hb hby d7_27)
  refine Gd.go (fun _ w_k => st5 _ (XS.lshl X5.here hx rfl (hb hby d7_30) rfl (XS.lor X5.here hx rfl (hb hby d7_31) rfl (XS.iload X5.here hx rfl (hb hby d7_32) rfl (XS.i2l X5.here hx rfl (hb hby d7_34) rfl w_k))))) ?_
  show Gd _ _ _ _ (T5.setTop (mkF m 35 #[.val (.ref (ad 0)), .val (.long u), .second, .val (.long f), .second, .val (.int (1 : Int32))] [(.long ((1 : Int32).toInt64)), (.long ((u <<< ((32 : Int32) &&& 0x3f).toInt64) ||| (((1073741823 : Int64) - f) <<< ((2 : Int32) &&& 0x3f).toInt64)))]))
  rw [show ((1 : Int32).toInt64) = (1 : Int64) from by decide]
  show Gd _ _ _ _ (T5.setTop (mkF m 35 #[.val (.ref (ad 0)), .val (.long u), .second, .val (.long f), .second, .val (.int (1 : Int32))] [(.long (1 : Int64)), (.long ((u <<< ((32 : Int32) &&& 0x3f).toInt64) ||| (((1073741823 : Int64) - f) <<< ((2 : Int32) &&& 0x3f).toInt64)))]))
  refine Gd.go (fun _ w_k => XS.lor X5.here hx rfl (hb hby d7_35) rfl (XS.goto X5.here hx rfl (pc0 := 36) (pc' := 42) rfl (hb hby d7_36) (by decide) (by decide) w_k)) ?_
  show Gd _ _ _ _ (T5.setTop (mkF m 42 #[.val (.ref (ad 0)), .val (.long u), .second, .val (.long f), .second, .val (.int (1 : Int32))] [(.long (((u <<< ((32 : Int32) &&& 0x3f).toInt64) ||| (((1073741823 : Int64) - f) <<< ((2 : Int32) &&& 0x3f).toInt64)) ||| (1 : Int64)))]))
  refine own_retL X5 hx hret hlk (hb hby d7_42) ?_ (by decide) (by decide)
  exact ⟨rfl, e5, rfl⟩
theorem own_w_l31 {Z : State} {a0 : Array Value} (hw : ∀ d ∈ tables_1, d.before a0 Z = true) {h h' : Heap} {n0 : Nat} {ad : Nat → Addr} {v_rn v_mg : Addr} {v_ra v_fa v_fk v_an v_at v_c1 v_c2 v_c3 v_i10 v_i11 v_i12 v_i20 v_i21 v_i22 v_i30 v_i31 v_i32 v_k0 v_k1 v_k2 : Int32} {v_nx v_l10 v_l11 v_l12 v_l20 v_l21 v_l22 v_l30 v_l31 v_l32 : Int64} {v : Int64} (H : own_H Z h n0 ad v_rn v_mg v_ra v_fa v_fk v_an v_at v_nx v_c1 v_c2 v_c3 v_l10 v_l11 v_l12 v_l20 v_l21 v_l22 v_l30 v_l31 v_l32 v_i10 v_i11 v_i12 v_i20 v_i21 v_i22 v_i30 v_i31 v_i32 v_k0 v_k1 v_k2) (W : Wr h h' (ad 6) (1 : Int32).toNatClampNeg (.long v)) : own_H Z h' n0 ad v_rn v_mg v_ra v_fa v_fk v_an v_at v_nx v_c1 v_c2 v_c3 v_l10 v_l11 v_l12 v_l20 v_l21 v_l22 v_l30 v v_l32 v_i10 v_i11 v_i12 v_i20 v_i21 v_i22 v_i30 v_i31 v_i32 v_k0 v_k1 v_k2 := by
  obtain ⟨hinj, hge, E0, E1, E2, E3, r_run, r_merged, r_fresh, r_serverBits, r_freeBits, r_serverMask, r_mostFree, r_mostSpend, r_runAt, r_freshAt, r_freshKept, r_ranking, r_rankedAnew, r_at, r_next, u1_rank, u1_ranking, u1_count, u2_rank, u2_ranking, u2_count, u3_rank, u3_ranking, u3_count, a_l1, a_l2, a_l3, a_i1, a_i2, a_i3, a_k⟩ := H
  exact ⟨hinj, hge, E0.wr W, E1.wr W, E2.wr W, E3.wr W, r_run.other W (Or.inl (on hinj 0 6 rfl)), r_merged.other W (Or.inl (on hinj 0 6 rfl)), r_fresh.other W (Or.inl (on hinj 0 6 rfl)), r_serverBits.other W (Or.inl (on hinj 0 6 rfl)), r_freeBits.other W (Or.inl (on hinj 0 6 rfl)), r_serverMask.other W (Or.inl (on hinj 0 6 rfl)), r_mostFree.other W (Or.inl (on hinj 0 6 rfl)), r_mostSpend.other W (Or.inl (on hinj 0 6 rfl)), r_runAt.other W (Or.inl (on hinj 0 6 rfl)), r_freshAt.other W (Or.inl (on hinj 0 6 rfl)), r_freshKept.other W (Or.inl (on hinj 0 6 rfl)), r_ranking.other W (Or.inl (on hinj 0 6 rfl)), r_rankedAnew.other W (Or.inl (on hinj 0 6 rfl)), r_at.other W (Or.inl (on hinj 0 6 rfl)), r_next.other W (Or.inl (on hinj 0 6 rfl)), u1_rank.other W (Or.inl (on hinj 1 6 rfl)), u1_ranking.other W (Or.inl (on hinj 1 6 rfl)), u1_count.other W (Or.inl (on hinj 1 6 rfl)), u2_rank.other W (Or.inl (on hinj 2 6 rfl)), u2_ranking.other W (Or.inl (on hinj 2 6 rfl)), u2_count.other W (Or.inl (on hinj 2 6 rfl)), u3_rank.other W (Or.inl (on hinj 3 6 rfl)), u3_ranking.other W (Or.inl (on hinj 3 6 rfl)), u3_count.other W (Or.inl (on hinj 3 6 rfl)), a_l1.other W (on hinj 4 6 rfl), a_l2.other W (on hinj 5 6 rfl), own_setJ1 (a_l3.set W), a_i1.other W (on hinj 7 6 rfl), a_i2.other W (on hinj 8 6 rfl), a_i3.other W (on hinj 9 6 rfl), a_k.other W (on hinj 10 6 rfl)⟩
theorem own_w_i31 {Z : State} {a0 : Array Value} (hw : ∀ d ∈ tables_1, d.before a0 Z = true) {h h' : Heap} {n0 : Nat} {ad : Nat → Addr} {v_rn v_mg : Addr} {v_ra v_fa v_fk v_an v_at v_c1 v_c2 v_c3 v_i10 v_i11 v_i12 v_i20 v_i21 v_i22 v_i30 v_i31 v_i32 v_k0 v_k1 v_k2 : Int32} {v_nx v_l10 v_l11 v_l12 v_l20 v_l21 v_l22 v_l30 v_l31 v_l32 : Int64} {v : Int32} (H : own_H Z h n0 ad v_rn v_mg v_ra v_fa v_fk v_an v_at v_nx v_c1 v_c2 v_c3 v_l10 v_l11 v_l12 v_l20 v_l21 v_l22 v_l30 v_l31 v_l32 v_i10 v_i11 v_i12 v_i20 v_i21 v_i22 v_i30 v_i31 v_i32 v_k0 v_k1 v_k2) (W : Wr h h' (ad 9) (1 : Int32).toNatClampNeg (.int v)) : own_H Z h' n0 ad v_rn v_mg v_ra v_fa v_fk v_an v_at v_nx v_c1 v_c2 v_c3 v_l10 v_l11 v_l12 v_l20 v_l21 v_l22 v_l30 v_l31 v_l32 v_i10 v_i11 v_i12 v_i20 v_i21 v_i22 v_i30 v v_i32 v_k0 v_k1 v_k2 := by
  obtain ⟨hinj, hge, E0, E1, E2, E3, r_run, r_merged, r_fresh, r_serverBits, r_freeBits, r_serverMask, r_mostFree, r_mostSpend, r_runAt, r_freshAt, r_freshKept, r_ranking, r_rankedAnew, r_at, r_next, u1_rank, u1_ranking, u1_count, u2_rank, u2_ranking, u2_count, u3_rank, u3_ranking, u3_count, a_l1, a_l2, a_l3, a_i1, a_i2, a_i3, a_k⟩ := H
  exact ⟨hinj, hge, E0.wr W, E1.wr W, E2.wr W, E3.wr W, r_run.other W (Or.inl (on hinj 0 9 rfl)), r_merged.other W (Or.inl (on hinj 0 9 rfl)), r_fresh.other W (Or.inl (on hinj 0 9 rfl)), r_serverBits.other W (Or.inl (on hinj 0 9 rfl)), r_freeBits.other W (Or.inl (on hinj 0 9 rfl)), r_serverMask.other W (Or.inl (on hinj 0 9 rfl)), r_mostFree.other W (Or.inl (on hinj 0 9 rfl)), r_mostSpend.other W (Or.inl (on hinj 0 9 rfl)), r_runAt.other W (Or.inl (on hinj 0 9 rfl)), r_freshAt.other W (Or.inl (on hinj 0 9 rfl)), r_freshKept.other W (Or.inl (on hinj 0 9 rfl)), r_ranking.other W (Or.inl (on hinj 0 9 rfl)), r_rankedAnew.other W (Or.inl (on hinj 0 9 rfl)), r_at.other W (Or.inl (on hinj 0 9 rfl)), r_next.other W (Or.inl (on hinj 0 9 rfl)), u1_rank.other W (Or.inl (on hinj 1 9 rfl)), u1_ranking.other W (Or.inl (on hinj 1 9 rfl)), u1_count.other W (Or.inl (on hinj 1 9 rfl)), u2_rank.other W (Or.inl (on hinj 2 9 rfl)), u2_ranking.other W (Or.inl (on hinj 2 9 rfl)), u2_count.other W (Or.inl (on hinj 2 9 rfl)), u3_rank.other W (Or.inl (on hinj 3 9 rfl)), u3_ranking.other W (Or.inl (on hinj 3 9 rfl)), u3_count.other W (Or.inl (on hinj 3 9 rfl)), a_l1.other W (on hinj 4 9 rfl), a_l2.other W (on hinj 5 9 rfl), a_l3.other W (on hinj 6 9 rfl), a_i1.other W (on hinj 7 9 rfl), a_i2.other W (on hinj 8 9 rfl), own_setI1 (a_i3.set W), a_k.other W (on hinj 10 9 rfl)⟩
set_option maxRecDepth 65536 in
set_option maxHeartbeats 40000000 in
theorem own_c9_1 (l : Launch) (Z : State) (a0 : Array Value) (hw : ∀ d ∈ tables_1, d.before a0 Z = true) (h0 : Heap) (n0 : Nat) (ad : Nat → Addr) (pk : Int64) (of : Int32) (v_rn : Addr) (v_mg : Addr) (v_ra : Int32) (v_fa : Int32) (v_fk : Int32) (v_an : Int32) (v_at : Int32) (v_nx : Int64) (v_c1 : Int32) (v_c2 : Int32) (v_l10 : Int64) (v_l11 : Int64) (v_l12 : Int64) (v_l20 : Int64) (v_l21 : Int64) (v_l22 : Int64) (v_l30 : Int64) (v_l31 : Int64) (v_l32 : Int64) (v_i10 : Int32) (v_i11 : Int32) (v_i12 : Int32) (v_i20 : Int32) (v_i21 : Int32) (v_i22 : Int32) (v_i30 : Int32) (v_i31 : Int32) (v_i32 : Int32) (v_k0 : Int32) (v_k1 : Int32) (v_k2 : Int32) (H : own_H Z h0 n0 ad v_rn v_mg v_ra v_fa v_fk v_an v_at v_nx v_c1 v_c2 (1 : Int32) v_l10 v_l11 v_l12 v_l20 v_l21 v_l22 v_l30 v_l31 v_l32 v_i10 v_i11 v_i12 v_i20 v_i21 v_i22 v_i30 v_i31 v_i32 v_k0 v_k1 v_k2) :
    Con l Z (⟨"com/example/nearfield/nearfield/job/RankedReads$Run", "add", "(JI)V"⟩ : MethodName) prog_99_method_4_code 4 none [] ({ frames := 0, cells := 0, slots := 0, locals := 0 } : Room) 0 0 #[(.ref (ad 3)), (.long pk), (.int of)] h0 (fun r h L => r = none ∧ own_H Z h n0 ad v_rn v_mg v_ra v_fa v_fk v_an v_at v_nx v_c1 v_c2 (2 : Int32) v_l10 v_l11 v_l12 v_l20 v_l21 v_l22 v_l30 pk v_l32 v_i10 v_i11 v_i12 v_i20 v_i21 v_i22 v_i30 of v_i32 v_k0 v_k1 v_k2 ∧ Fr n0 L) := by
  refine Con.of own_pn11 ?_
  intro pg ev s_ m bl mt cd s₁ hx hby hml hown hnm hret hlk hZ X0 e0
  rw [ef_9]
  show Gd _ _ _ _ (s₁.setTop (mkF m 0 #[.val (.ref (ad 3)), .val (.long pk), .second, .val (.int of)] []))
  have N0 := Fr.nil n0
  refine Gd.go (fun _ w_k => XS.aloadN X0.here hx rfl (hb hby d9_0) rfl rfl w_k) ?_
  show Gd _ _ _ _ (s₁.setTop (mkF m 1 #[.val (.ref (ad 3)), .val (.long pk), .second, .val (.int of)] [(.ref (ad 3))]))
  obtain ⟨T1, X1, e1, st1⟩ := getF X0 hx hZ hown (host := "") (Or.inl (ow hw 71 rfl)) Via.refl e0 H.2.2.2.2.2.2.2.2.2.2.2.2.2.2.2.2.2.2.2.2.2.2.2.2.2.2.2.2.2.1 (g := (mkF m 1 #[.val (.ref (ad 3)), .val (.long pk), .second, .val (.int of)] [(.ref (ad 3))])) rfl rfl (hb hby d9_1)
  refine Gd.go (fun _ w_k => st1 _ (XS.aloadN X1.here hx rfl (hb hby d9_4) rfl rfl w_k)) ?_
  show Gd _ _ _ _ (T1.setTop (mkF m 5 #[.val (.ref (ad 3)), .val (.long pk), .second, .val (.int of)] [(.ref (ad 3)), (.int (1 : Int32))]))
  obtain ⟨T2, X2, e2, st2⟩ := getF X1 hx hZ hown (host := "") (Or.inl (ow hw 19 rfl)) Via.refl e1 H.2.2.2.2.2.2.2.2.2.2.2.2.2.2.2.2.2.2.2.2.2.2.2.2.2.2.2.1 (g := (mkF m 5 #[.val (.ref (ad 3)), .val (.long pk), .second, .val (.int of)] [(.ref (ad 3)), (.int (1 : Int32))])) rfl rfl (hb hby d9_5)
  refine Gd.go (fun _ w_k => st2 _ (own_len X2 hx hZ e2 H.2.2.2.2.2.2.2.2.2.2.2.2.2.2.2.2.2.2.2.2.2.2.2.2.2.2.2.2.2.2.2.2.1 (z := (16 : Int32)) rfl (g := (mkF m 8 #[.val (.ref (ad 3)), .val (.long pk), .second, .val (.int of)] [(.ref (ad 6)), (.int (1 : Int32))])) rfl rfl (hb hby d9_8) _ (XS.icmpYes X2.here hx rfl (pc0 := 9) (pc' := 46) rfl (hb hby d9_9) rfl (feq (by decide)).2 (by decide) (by decide) w_k))) ?_
  show Gd _ _ _ _ (T2.setTop (mkF m 46 #[.val (.ref (ad 3)), .val (.long pk), .second, .val (.int of)] []))
  refine Gd.go (fun _ w_k => XS.aloadN X2.here hx rfl (hb hby d9_46) rfl rfl w_k) ?_
  show Gd _ _ _ _ (T2.setTop (mkF m 47 #[.val (.ref (ad 3)), .val (.long pk), .second, .val (.int of)] [(.ref (ad 3))]))
  obtain ⟨T3, X3, e3, st3⟩ := getF X2 hx hZ hown (host := "") (Or.inl (ow hw 19 rfl)) Via.refl e2 H.2.2.2.2.2.2.2.2.2.2.2.2.2.2.2.2.2.2.2.2.2.2.2.2.2.2.2.1 (g := (mkF m 47 #[.val (.ref (ad 3)), .val (.long pk), .second, .val (.int of)] [(.ref (ad 3))])) rfl rfl (hb hby d9_47)
  refine Gd.go (fun _ w_k => st3 _ (XS.aloadN X3.here hx rfl (hb hby d9_50) rfl rfl w_k)) ?_
  show Gd _ _ _ _ (T3.setTop (mkF m 51 #[.val (.ref (ad 3)), .val (.long pk), .second, .val (.int of)] [(.ref (ad 3)), (.ref (ad 6))]))
  obtain ⟨T4, X4, e4, st4⟩ := getF X3 hx hZ hown (host := "") (Or.inl (ow hw 71 rfl)) Via.refl e3 H.2.2.2.2.2.2.2.2.2.2.2.2.2.2.2.2.2.2.2.2.2.2.2.2.2.2.2.2.2.1 (g := (mkF m 51 #[.val (.ref (ad 3)), .val (.long pk), .second, .val (.int of)] [(.ref (ad 3)), (.ref (ad 6))])) rfl rfl (hb hby d9_51)
  refine Gd.go (fun _ w_k => st4 _ (XS.lloadN X4.here hx rfl (hb hby d9_54) rfl w_k)) ?_
  show Gd _ _ _ _ (T4.setTop (mkF m 55 #[.val (.ref (ad 3)), .val (.long pk), .second, .val (.int of)] [(.long pk), (.int (1 : Int32)), (.ref (ad 6))]))
  obtain ⟨T5, h5, X5, e5, W5, st5⟩ := own_stJ X4 hx hZ e4 H.2.2.2.2.2.2.2.2.2.2.2.2.2.2.2.2.2.2.2.2.2.2.2.2.2.2.2.2.2.2.2.2.1 (j := (1 : Int32)) (by decide) (by decide) (g := (mkF m 55 #[.val (.ref (ad 3)), .val (.long pk), .second, .val (.int of)] [(.long pk), (.int (1 : Int32)), (.ref (ad 6))])) rfl rfl (hb hby d9_55)
  refine Gd.go (fun _ w_k => st5 _ w_k) ?_
  have H6 := own_w_l31 hw H W5
  have xN7 := Fr.snoc X5 N0 (H.2.1 6 (by decide))
  show Gd _ _ _ _ (T5.setTop (mkF m 56 #[.val (.ref (ad 3)), .val (.long pk), .second, .val (.int of)] []))
  refine Gd.go (fun _ w_k => XS.aloadN X5.here hx rfl (hb hby d9_56) rfl rfl w_k) ?_
  show Gd _ _ _ _ (T5.setTop (mkF m 57 #[.val (.ref (ad 3)), .val (.long pk), .second, .val (.int of)] [(.ref (ad 3))]))
  obtain ⟨T8, X8, e8, st8⟩ := getF X5 hx hZ hown (host := "") (Or.inl (ow hw 22 rfl)) Via.refl e5 H6.2.2.2.2.2.2.2.2.2.2.2.2.2.2.2.2.2.2.2.2.2.2.2.2.2.2.2.2.1 (g := (mkF m 57 #[.val (.ref (ad 3)), .val (.long pk), .second, .val (.int of)] [(.ref (ad 3))])) rfl rfl (hb hby d9_57)
  refine Gd.go (fun _ w_k => st8 _ (XS.aloadN X8.here hx rfl (hb hby d9_60) rfl rfl w_k)) ?_
  show Gd _ _ _ _ (T8.setTop (mkF m 61 #[.val (.ref (ad 3)), .val (.long pk), .second, .val (.int of)] [(.ref (ad 3)), (.ref (ad 9))]))
  obtain ⟨T9, X9, e9, st9⟩ := getF X8 hx hZ hown (host := "") (Or.inl (ow hw 71 rfl)) Via.refl e8 H6.2.2.2.2.2.2.2.2.2.2.2.2.2.2.2.2.2.2.2.2.2.2.2.2.2.2.2.2.2.1 (g := (mkF m 61 #[.val (.ref (ad 3)), .val (.long pk), .second, .val (.int of)] [(.ref (ad 3)), (.ref (ad 9))])) rfl rfl (hb hby d9_61)
  refine Gd.go (fun _ w_k => st9 _ (XS.iloadN X9.here hx rfl (hb hby d9_64) rfl w_k)) ?_
  show Gd _ _ _ _ (T9.setTop (mkF m 65 #[.val (.ref (ad 3)), .val (.long pk), .second, .val (.int of)] [(.int of), (.int (1 : Int32)), (.ref (ad 9))]))
  obtain ⟨T10, h10, X10, e10, W10, st10⟩ := own_stI X9 hx hZ e9 H6.2.2.2.2.2.2.2.2.2.2.2.2.2.2.2.2.2.2.2.2.2.2.2.2.2.2.2.2.2.2.2.2.2.2.2.1 (j := (1 : Int32)) (by decide) (by decide) (g := (mkF m 65 #[.val (.ref (ad 3)), .val (.long pk), .second, .val (.int of)] [(.int of), (.int (1 : Int32)), (.ref (ad 9))])) rfl rfl (hb hby d9_65)
  refine Gd.go (fun _ w_k => st10 _ w_k) ?_
  have H11 := own_w_i31 hw H6 W10
  have xN12 := Fr.snoc X10 xN7 (H.2.1 9 (by decide))
  show Gd _ _ _ _ (T10.setTop (mkF m 66 #[.val (.ref (ad 3)), .val (.long pk), .second, .val (.int of)] []))
  refine Gd.go (fun _ w_k => XS.aloadN X10.here hx rfl (hb hby d9_66) rfl rfl (XS.dup X10.here hx rfl (hb hby d9_67) rfl rfl w_k)) ?_
  show Gd _ _ _ _ (T10.setTop (mkF m 68 #[.val (.ref (ad 3)), .val (.long pk), .second, .val (.int of)] [(.ref (ad 3)), (.ref (ad 3))]))
  obtain ⟨T13, X13, e13, st13⟩ := getF X10 hx hZ hown (host := "") (Or.inl (ow hw 71 rfl)) Via.refl e10 H11.2.2.2.2.2.2.2.2.2.2.2.2.2.2.2.2.2.2.2.2.2.2.2.2.2.2.2.2.2.1 (g := (mkF m 68 #[.val (.ref (ad 3)), .val (.long pk), .second, .val (.int of)] [(.ref (ad 3)), (.ref (ad 3))])) rfl rfl (hb hby d9_68)
  refine Gd.go (fun _ w_k => st13 _ (XS.iconst X13.here hx rfl (hb hby d9_71) (XS.iadd X13.here hx rfl (hb hby d9_72) rfl w_k))) ?_
  show Gd _ _ _ _ (T13.setTop (mkF m 73 #[.val (.ref (ad 3)), .val (.long pk), .second, .val (.int of)] [(.int ((1 : Int32) + (1 : Int32))), (.ref (ad 3))]))
  rw [show ((1 : Int32) + (1 : Int32)) = (2 : Int32) from by decide]
  show Gd _ _ _ _ (T13.setTop (mkF m 73 #[.val (.ref (ad 3)), .val (.long pk), .second, .val (.int of)] [(.int (2 : Int32)), (.ref (ad 3))]))
  obtain ⟨T14, h14, X14, e14, W14, st14⟩ := putF X13 hx hZ hown (host := "") (Or.inl (ow hw 71 rfl)) Via.refl e13 H11.2.2.2.2.2.2.2.2.2.2.2.2.2.2.2.2.2.2.2.2.2.2.2.2.2.2.2.2.2.1 H11.2.2.2.2.2.1 (Or.inl (ow hw 72 rfl)) (ow hw 12 rfl) (ty := .int) (by decide) rfl rfl (g := (mkF m 73 #[.val (.ref (ad 3)), .val (.long pk), .second, .val (.int of)] [(.int (2 : Int32)), (.ref (ad 3))])) rfl rfl (hb hby d9_73)
  refine Gd.go (fun _ w_k => st14 _ w_k) ?_
  have H15 := own_w_c3 hw H11 W14
  have xN16 := Fr.snoc X14 xN12 (H.2.1 3 (by decide))
  show Gd _ _ _ _ (T14.setTop (mkF m 76 #[.val (.ref (ad 3)), .val (.long pk), .second, .val (.int of)] []))
  refine own_retV X14 hx hret hlk (hb hby d9_76) ?_ (by decide) (by decide)
  rw [e14]
  exact ⟨rfl, H15, xN16⟩
set_option maxRecDepth 65536 in
set_option maxHeartbeats 40000000 in
theorem own_c6_1 (l : Launch) (Z : State) (a0 : Array Value) (hw : ∀ d ∈ tables_1, d.before a0 Z = true) (h0 : Heap) (n0 : Nat) (ad : Nat → Addr) (v_rn : Addr) (v_mg : Addr) (v_ra : Int32) (v_fa : Int32) (v_fk : Int32) (v_an : Int32) (v_at : Int32) (v_nx : Int64) (v_c1 : Int32) (v_c2 : Int32) (v_l10 : Int64) (v_l11 : Int64) (v_l12 : Int64) (v_l20 : Int64) (v_l21 : Int64) (v_l22 : Int64) (v_l30 : Int64) (v_l31 : Int64) (v_l32 : Int64) (v_i10 : Int32) (v_i11 : Int32) (v_i12 : Int32) (v_i20 : Int32) (v_i21 : Int32) (v_i22 : Int32) (v_i30 : Int32) (v_i31 : Int32) (v_i32 : Int32) (v_k0 : Int32) (v_k1 : Int32) (v_k2 : Int32) (H : own_H Z h0 n0 ad v_rn v_mg v_ra v_fa v_fk v_an v_at v_nx v_c1 v_c2 (1 : Int32) v_l10 v_l11 v_l12 v_l20 v_l21 v_l22 v_l30 v_l31 v_l32 v_i10 v_i11 v_i12 v_i20 v_i21 v_i22 v_i30 v_i31 v_i32 v_k0 v_k1 v_k2) (u f : Int64) (hu : 0 ≤ u.toInt ∧ u.toInt ≤ 2147483647) (hf : 0 ≤ f.toInt ∧ f.toInt ≤ 1073741823) :
    Con l Z (⟨"com/example/nearfield/nearfield/job/RankedReads", "rank", "(JJI)V"⟩ : MethodName) prog_98_method_4_code 6 none [] ({ frames := 2, cells := 0, slots := 0, locals := 34 } : Room) 0 0 #[(.ref (ad 0)), (.long u), (.long f), (.int (1 : Int32))] h0 (fun r h L => r = none ∧ own_H Z h n0 ad v_rn v_mg v_ra v_fa v_fk v_an v_at v_nx v_c1 v_c2 (2 : Int32) v_l10 v_l11 v_l12 v_l20 v_l21 v_l22 v_l30 (own_q u f (1 : Int64)) v_l32 v_i10 v_i11 v_i12 v_i20 v_i21 v_i22 v_i30 v_k1 v_i32 v_k0 v_k1 v_k2 ∧ Fr n0 L) := by
  refine Con.of own_pn12 ?_
  intro pg ev s_ m bl mt cd s₁ hx hby hml hown hnm hret hlk hZ X0 e0
  rw [ef_6]
  show Gd _ _ _ _ (s₁.setTop (mkF m 0 #[.val (.ref (ad 0)), .val (.long u), .second, .val (.long f), .second, .val (.int (1 : Int32))] []))
  have N0 := Fr.nil n0
  refine Gd.go (fun _ w_k => XS.aloadN X0.here hx rfl (hb hby d6_0) rfl rfl w_k) ?_
  show Gd _ _ _ _ (s₁.setTop (mkF m 1 #[.val (.ref (ad 0)), .val (.long u), .second, .val (.long f), .second, .val (.int (1 : Int32))] [(.ref (ad 0))]))
  obtain ⟨T1, X1, e1, st1⟩ := getF X0 hx hZ hown (host := "") (Or.inl (ow hw 28 rfl)) Via.refl e0 H.2.2.2.2.2.2.2.2.1 (g := (mkF m 1 #[.val (.ref (ad 0)), .val (.long u), .second, .val (.long f), .second, .val (.int (1 : Int32))] [(.ref (ad 0))])) rfl rfl (hb hby d6_1)
  refine Gd.go (fun _ w_k => st1 _ (XS.aloadN X1.here hx rfl (hb hby d6_4) rfl rfl (XS.lloadN X1.here hx rfl (hb hby d6_5) rfl (XS.lloadN X1.here hx rfl (hb hby d6_6) rfl (XS.iload X1.here hx rfl (hb hby d6_7) rfl w_k))))) ?_
  show Gd _ _ _ _ (T1.setTop (mkF m 9 #[.val (.ref (ad 0)), .val (.long u), .second, .val (.long f), .second, .val (.int (1 : Int32))] [(.int (1 : Int32)), (.long f), (.long u), (.ref (ad 0)), (.ref (ad 3))]))
  obtain ⟨T2, X2, e2, st2⟩ := own_callVP X1 hx hZ (C := "com/example/nearfield/nearfield/job/RankedReads") (y := (⟨"com/example/nearfield/nearfield/job/RankedReads", "packed", "(JJI)J"⟩ : MethodName)) hown (ow hw 56 rfl) (ow hw 57 rfl) (ow hw 59 rfl) (ow hw 58 rfl) (ow hw 4 rfl) (ow hw 60 rfl) (by decide) H.2.2.1 (W := 1) (own_c7_1 l Z a0 hw h0 n0 ad v_rn v_mg v_ra v_fa v_fk v_an v_at v_nx v_c1 v_c2 (1 : Int32) v_l10 v_l11 v_l12 v_l20 v_l21 v_l22 v_l30 v_l31 v_l32 v_i10 v_i11 v_i12 v_i20 v_i21 v_i22 v_i30 v_i31 v_i32 v_k0 v_k1 v_k2 H u f hu hf) rfl rfl e1 (by decide) (by decide) (g := (mkF m 9 #[.val (.ref (ad 0)), .val (.long u), .second, .val (.long f), .second, .val (.int (1 : Int32))] [(.int (1 : Int32)), (.long f), (.long u), (.ref (ad 0)), (.ref (ad 3))])) rfl (by rw [hml]; rfl) (argsL := [(.long u), (.long f), (.int (1 : Int32))]) (rest := [(.ref (ad 3))]) (lenOf own_pd1 rfl) rfl (Nat.le_of_eq rfl) (hb hby d6_9) rfl
  refine Gd.go (fun _ w_k => st2 _ (XS.aloadN X2.here hx rfl (hb hby d6_12) rfl rfl w_k)) ?_
  show Gd _ _ _ _ (T2.setTop (mkF m 13 #[.val (.ref (ad 0)), .val (.long u), .second, .val (.long f), .second, .val (.int (1 : Int32))] [(.ref (ad 0)), (.long (own_q u f (1 : Int64))), (.ref (ad 3))]))
  obtain ⟨T3, X3, e3, st3⟩ := getF X2 hx hZ hown (host := "") (Or.inl (ow hw 49 rfl)) Via.refl e2 H.2.2.2.2.2.2.2.2.2.2.2.2.2.2.2.2.2.1 (g := (mkF m 13 #[.val (.ref (ad 0)), .val (.long u), .second, .val (.long f), .second, .val (.int (1 : Int32))] [(.ref (ad 0)), (.long (own_q u f (1 : Int64))), (.ref (ad 3))])) rfl rfl (hb hby d6_13)
  refine Gd.go (fun _ w_k => st3 _ (XS.iload X3.here hx rfl (hb hby d6_16) rfl (own_ldI X3 hx hZ e3 H.2.2.2.2.2.2.2.2.2.2.2.2.2.2.2.2.2.2.2.2.2.2.2.2.2.2.2.2.2.2.2.2.2.2.2.2 (j := (1 : Int32)) (by decide) (by decide) (v := (.int v_k1)) rfl (g := (mkF m 18 #[.val (.ref (ad 0)), .val (.long u), .second, .val (.long f), .second, .val (.int (1 : Int32))] [(.int (1 : Int32)), (.ref (ad 10)), (.long (own_q u f (1 : Int64))), (.ref (ad 3))])) rfl rfl (hb hby d6_18) _ w_k))) ?_
  show Gd _ _ _ _ (T3.setTop (mkF m 19 #[.val (.ref (ad 0)), .val (.long u), .second, .val (.long f), .second, .val (.int (1 : Int32))] [(.int v_k1), (.long (own_q u f (1 : Int64))), (.ref (ad 3))]))
  obtain ⟨v4, T4, L4, X4, hQ4, st4⟩ := own_callV X3 hx hZ (C := "com/example/nearfield/nearfield/job/RankedReads$Run") (y := (⟨"com/example/nearfield/nearfield/job/RankedReads$Run", "add", "(JI)V"⟩ : MethodName)) hown (ow hw 66 rfl) (ow hw 67 rfl) (ow hw 69 rfl) (ow hw 68 rfl) (ow hw 13 rfl) (ow hw 70 rfl) (by decide) H.2.2.2.2.2.1 (W := 0) (own_c9_1 l Z a0 hw h0 n0 ad (own_q u f (1 : Int64)) v_k1 v_rn v_mg v_ra v_fa v_fk v_an v_at v_nx v_c1 v_c2 v_l10 v_l11 v_l12 v_l20 v_l21 v_l22 v_l30 v_l31 v_l32 v_i10 v_i11 v_i12 v_i20 v_i21 v_i22 v_i30 v_i31 v_i32 v_k0 v_k1 v_k2 H) rfl rfl e3 (by decide) (by decide) (g := (mkF m 19 #[.val (.ref (ad 0)), .val (.long u), .second, .val (.long f), .second, .val (.int (1 : Int32))] [(.int v_k1), (.long (own_q u f (1 : Int64))), (.ref (ad 3))])) rfl (by rw [hml]; rfl) (argsL := [(.long (own_q u f (1 : Int64))), (.int v_k1)]) (rest := []) (lenOf own_pd2 rfl) rfl (Nat.le_of_eq rfl) (hb hby d6_19) rfl (by decide) (by decide)
  obtain ⟨rfl, H9, N9⟩ := hQ4
  refine Gd.go (fun _ w_k => st4 _ w_k) ?_
  show Gd _ _ _ _ (T4.setTop (mkF m 22 #[.val (.ref (ad 0)), .val (.long u), .second, .val (.long f), .second, .val (.int (1 : Int32))] []))
  refine own_retV X4 hx hret hlk (hb hby d6_22) ?_ (by decide) (by decide)
  exact ⟨rfl, H9, (List.nil_append (α := Loc) _).symm ▸ N9⟩
set_option maxRecDepth 65536 in
set_option maxHeartbeats 40000000 in
theorem own_c7_2 (l : Launch) (Z : State) (a0 : Array Value) (hw : ∀ d ∈ tables_1, d.before a0 Z = true) (h0 : Heap) (n0 : Nat) (ad : Nat → Addr) (v_rn : Addr) (v_mg : Addr) (v_ra : Int32) (v_fa : Int32) (v_fk : Int32) (v_an : Int32) (v_at : Int32) (v_nx : Int64) (v_c1 : Int32) (v_c2 : Int32) (v_c3 : Int32) (v_l10 : Int64) (v_l11 : Int64) (v_l12 : Int64) (v_l20 : Int64) (v_l21 : Int64) (v_l22 : Int64) (v_l30 : Int64) (v_l31 : Int64) (v_l32 : Int64) (v_i10 : Int32) (v_i11 : Int32) (v_i12 : Int32) (v_i20 : Int32) (v_i21 : Int32) (v_i22 : Int32) (v_i30 : Int32) (v_i31 : Int32) (v_i32 : Int32) (v_k0 : Int32) (v_k1 : Int32) (v_k2 : Int32) (H : own_H Z h0 n0 ad v_rn v_mg v_ra v_fa v_fk v_an v_at v_nx v_c1 v_c2 v_c3 v_l10 v_l11 v_l12 v_l20 v_l21 v_l22 v_l30 v_l31 v_l32 v_i10 v_i11 v_i12 v_i20 v_i21 v_i22 v_i30 v_i31 v_i32 v_k0 v_k1 v_k2) (u f : Int64) (hu : 0 ≤ u.toInt ∧ u.toInt ≤ 2147483647) (hf : 0 ≤ f.toInt ∧ f.toInt ≤ 1073741823) :
    Con l Z (⟨"com/example/nearfield/nearfield/job/RankedReads", "packed", "(JJI)J"⟩ : MethodName) prog_98_method_5_code 6 (some .long) [] ({ frames := 1, cells := 0, slots := 0, locals := 16 } : Room) 0 0 #[(.ref (ad 0)), (.long u), (.long f), (.int (2 : Int32))] h0 (fun r h L => r = some (.long (own_q u f (2 : Int64))) ∧ h = h0 ∧ L = []) := by
  refine Con.of own_pn10 ?_
  intro pg ev s_ m bl mt cd s₁ hx hby hml hown hnm hret hlk hZ X0 e0
  rw [ef_7]
  show Gd _ _ _ _ (s₁.setTop (mkF m 0 #[.val (.ref (ad 0)), .val (.long u), .second, .val (.long f), .second, .val (.int (2 : Int32))] []))
  have N0 := Fr.nil n0
  refine Gd.go (fun _ w_k => XS.aloadN X0.here hx rfl (hb hby d7_0) rfl rfl (XS.lloadN X0.here hx rfl (hb hby d7_1) rfl (XS.lloadN X0.here hx rfl (hb hby d7_2) rfl w_k))) ?_
  show Gd _ _ _ _ (s₁.setTop (mkF m 3 #[.val (.ref (ad 0)), .val (.long u), .second, .val (.long f), .second, .val (.int (2 : Int32))] [(.long f), (.long u), (.ref (ad 0))]))
  obtain ⟨T1, X1, e1, st1⟩ := own_callVP X0 hx hZ (C := "com/example/nearfield/nearfield/job/RankedReads") (y := (⟨"com/example/nearfield/nearfield/job/RankedReads", "fits", "(JJ)Z"⟩ : MethodName)) hown (ow hw 61 rfl) (ow hw 62 rfl) (ow hw 64 rfl) (ow hw 63 rfl) (ow hw 4 rfl) (ow hw 65 rfl) (by decide) H.2.2.1 (W := 0) (own_c8 l Z a0 hw h0 n0 ad v_rn v_mg v_ra v_fa v_fk v_an v_at v_nx v_c1 v_c2 v_c3 v_l10 v_l11 v_l12 v_l20 v_l21 v_l22 v_l30 v_l31 v_l32 v_i10 v_i11 v_i12 v_i20 v_i21 v_i22 v_i30 v_i31 v_i32 v_k0 v_k1 v_k2 H u f hu hf) rfl rfl e0 (by decide) (by decide) (g := (mkF m 3 #[.val (.ref (ad 0)), .val (.long u), .second, .val (.long f), .second, .val (.int (2 : Int32))] [(.long f), (.long u), (.ref (ad 0))])) rfl (by rw [hml]; rfl) (argsL := [(.long u), (.long f)]) (rest := []) (lenOf own_pd0 rfl) rfl (Nat.le_of_eq rfl) (hb hby d7_3) rfl
  refine Gd.go (fun _ w_k => st1 _ (XS.ifNo X1.here hx rfl (hb hby d7_6) rfl ((if0 _ _).trans (feq (by decide)).1) w_k)) ?_
  show Gd _ _ _ _ (T1.setTop (mkF m 9 #[.val (.ref (ad 0)), .val (.long u), .second, .val (.long f), .second, .val (.int (2 : Int32))] []))
  refine Gd.go (fun _ w_k => XS.lloadN X1.here hx rfl (hb hby d7_9) rfl (XS.aloadN X1.here hx rfl (hb hby d7_10) rfl rfl w_k)) ?_
  show Gd _ _ _ _ (T1.setTop (mkF m 11 #[.val (.ref (ad 0)), .val (.long u), .second, .val (.long f), .second, .val (.int (2 : Int32))] [(.ref (ad 0)), (.long u)]))
  obtain ⟨T2, X2, e2, st2⟩ := getF X1 hx hZ hown (host := "") (Or.inl (ow hw 41 rfl)) Via.refl e1 H.2.2.2.2.2.2.2.2.2.2.1 (g := (mkF m 11 #[.val (.ref (ad 0)), .val (.long u), .second, .val (.long f), .second, .val (.int (2 : Int32))] [(.ref (ad 0)), (.long u)])) rfl rfl (hb hby d7_11)
  refine Gd.go (fun _ w_k => st2 _ (XS.aloadN X2.here hx rfl (hb hby d7_14) rfl rfl w_k)) ?_
  show Gd _ _ _ _ (T2.setTop (mkF m 15 #[.val (.ref (ad 0)), .val (.long u), .second, .val (.long f), .second, .val (.int (2 : Int32))] [(.ref (ad 0)), (.int (30 : Int32)), (.long u)]))
  obtain ⟨T3, X3, e3, st3⟩ := getF X2 hx hZ hown (host := "") (Or.inl (ow hw 39 rfl)) Via.refl e2 H.2.2.2.2.2.2.2.2.2.1 (g := (mkF m 15 #[.val (.ref (ad 0)), .val (.long u), .second, .val (.long f), .second, .val (.int (2 : Int32))] [(.ref (ad 0)), (.int (30 : Int32)), (.long u)])) rfl rfl (hb hby d7_15)
  refine Gd.go (fun _ w_k => st3 _ (XS.iadd X3.here hx rfl (hb hby d7_18) rfl w_k)) ?_
  show Gd _ _ _ _ (T3.setTop (mkF m 19 #[.val (.ref (ad 0)), .val (.long u), .second, .val (.long f), .second, .val (.int (2 : Int32))] [(.int ((30 : Int32) + (2 : Int32))), (.long u)]))
  rw [show ((30 : Int32) + (2 : Int32)) = (32 : Int32) from by decide]
  show Gd _ _ _ _ (T3.setTop (mkF m 19 #[.val (.ref (ad 0)), .val (.long u), .second, .val (.long f), .second, .val (.int (2 : Int32))] [(.int (32 : Int32)), (.long u)]))
  refine Gd.go (fun _ w_k => XS.lshl X3.here hx rfl (hb hby d7_19) rfl (XS.aloadN X3.here hx rfl (hb hby d7_20) rfl rfl w_k)) ?_
  show Gd _ _ _ _ (T3.setTop (mkF m 21 #[.val (.ref (ad 0)), .val (.long u), .second, .val (.long f), .second, .val (.int (2 : Int32))] [(.ref (ad 0)), (.long (u <<< ((32 : Int32) &&& 0x3f).toInt64))]))
  obtain ⟨T4, X4, e4, st4⟩ := getF X3 hx hZ hown (host := "") (Or.inl (ow hw 45 rfl)) Via.refl e3 H.2.2.2.2.2.2.2.2.2.2.2.2.1 (g := (mkF m 21 #[.val (.ref (ad 0)), .val (.long u), .second, .val (.long f), .second, .val (.int (2 : Int32))] [(.ref (ad 0)), (.long (u <<< ((32 : Int32) &&& 0x3f).toInt64))])) rfl rfl (hb hby d7_21)
  refine Gd.go (fun _ w_k => st4 _ (XS.lloadN X4.here hx rfl (hb hby d7_24) rfl (XS.lsub X4.here hx rfl (hb hby d7_25) rfl (XS.aloadN X4.here hx rfl (hb hby d7_26) rfl rfl w_k)))) ?_
  show Gd _ _ _ _ (T4.setTop (mkF m 27 #[.val (.ref (ad 0)), .val (.long u), .second, .val (.long f), .second, .val (.int (2 : Int32))] [(.ref (ad 0)), (.long ((1073741823 : Int64) - f)), (.long (u <<< ((32 : Int32) &&& 0x3f).toInt64))]))
  obtain ⟨T5, X5, e5, st5⟩ := getF X4 hx hZ hown (host := "") (Or.inl (ow hw 39 rfl)) Via.refl e4 H.2.2.2.2.2.2.2.2.2.1 (g := (mkF m 27 #[.val (.ref (ad 0)), .val (.long u), .second, .val (.long f), .second, .val (.int (2 : Int32))] [(.ref (ad 0)), (.long ((1073741823 : Int64) - f)), (.long (u <<< ((32 : Int32) &&& 0x3f).toInt64))])) rfl rfl (hb hby d7_27)
  refine Gd.go (fun _ w_k => st5 _ (XS.lshl X5.here hx rfl (hb hby d7_30) rfl (XS.lor X5.here hx rfl (hb hby d7_31) rfl (XS.iload X5.here hx rfl (hb hby d7_32) rfl (XS.i2l X5.here hx rfl (hb hby d7_34) rfl w_k))))) ?_
  show Gd _ _ _ _ (T5.setTop (mkF m 35 #[.val (.ref (ad 0)), .val (.long u), .second, .val (.long f), .second, .val (.int (2 : Int32))] [(.long ((2 : Int32).toInt64)), (.long ((u <<< ((32 : Int32) &&& 0x3f).toInt64) ||| (((1073741823 : Int64) - f) <<< ((2 : Int32) &&& 0x3f).toInt64)))]))
  rw [show ((2 : Int32).toInt64) = (2 : Int64) from by decide]
  show Gd _ _ _ _ (T5.setTop (mkF m 35 #[.val (.ref (ad 0)), .val (.long u), .second, .val (.long f), .second, .val (.int (2 : Int32))] [(.long (2 : Int64)), (.long ((u <<< ((32 : Int32) &&& 0x3f).toInt64) ||| (((1073741823 : Int64) - f) <<< ((2 : Int32) &&& 0x3f).toInt64)))]))
  refine Gd.go (fun _ w_k => XS.lor X5.here hx rfl (hb hby d7_35) rfl (XS.goto X5.here hx rfl (pc0 := 36) (pc' := 42) rfl (hb hby d7_36) (by decide) (by decide) w_k)) ?_
  show Gd _ _ _ _ (T5.setTop (mkF m 42 #[.val (.ref (ad 0)), .val (.long u), .second, .val (.long f), .second, .val (.int (2 : Int32))] [(.long (((u <<< ((32 : Int32) &&& 0x3f).toInt64) ||| (((1073741823 : Int64) - f) <<< ((2 : Int32) &&& 0x3f).toInt64)) ||| (2 : Int64)))]))
  refine own_retL X5 hx hret hlk (hb hby d7_42) ?_ (by decide) (by decide)
  exact ⟨rfl, e5, rfl⟩
theorem own_w_l32 {Z : State} {a0 : Array Value} (hw : ∀ d ∈ tables_1, d.before a0 Z = true) {h h' : Heap} {n0 : Nat} {ad : Nat → Addr} {v_rn v_mg : Addr} {v_ra v_fa v_fk v_an v_at v_c1 v_c2 v_c3 v_i10 v_i11 v_i12 v_i20 v_i21 v_i22 v_i30 v_i31 v_i32 v_k0 v_k1 v_k2 : Int32} {v_nx v_l10 v_l11 v_l12 v_l20 v_l21 v_l22 v_l30 v_l31 v_l32 : Int64} {v : Int64} (H : own_H Z h n0 ad v_rn v_mg v_ra v_fa v_fk v_an v_at v_nx v_c1 v_c2 v_c3 v_l10 v_l11 v_l12 v_l20 v_l21 v_l22 v_l30 v_l31 v_l32 v_i10 v_i11 v_i12 v_i20 v_i21 v_i22 v_i30 v_i31 v_i32 v_k0 v_k1 v_k2) (W : Wr h h' (ad 6) (2 : Int32).toNatClampNeg (.long v)) : own_H Z h' n0 ad v_rn v_mg v_ra v_fa v_fk v_an v_at v_nx v_c1 v_c2 v_c3 v_l10 v_l11 v_l12 v_l20 v_l21 v_l22 v_l30 v_l31 v v_i10 v_i11 v_i12 v_i20 v_i21 v_i22 v_i30 v_i31 v_i32 v_k0 v_k1 v_k2 := by
  obtain ⟨hinj, hge, E0, E1, E2, E3, r_run, r_merged, r_fresh, r_serverBits, r_freeBits, r_serverMask, r_mostFree, r_mostSpend, r_runAt, r_freshAt, r_freshKept, r_ranking, r_rankedAnew, r_at, r_next, u1_rank, u1_ranking, u1_count, u2_rank, u2_ranking, u2_count, u3_rank, u3_ranking, u3_count, a_l1, a_l2, a_l3, a_i1, a_i2, a_i3, a_k⟩ := H
  exact ⟨hinj, hge, E0.wr W, E1.wr W, E2.wr W, E3.wr W, r_run.other W (Or.inl (on hinj 0 6 rfl)), r_merged.other W (Or.inl (on hinj 0 6 rfl)), r_fresh.other W (Or.inl (on hinj 0 6 rfl)), r_serverBits.other W (Or.inl (on hinj 0 6 rfl)), r_freeBits.other W (Or.inl (on hinj 0 6 rfl)), r_serverMask.other W (Or.inl (on hinj 0 6 rfl)), r_mostFree.other W (Or.inl (on hinj 0 6 rfl)), r_mostSpend.other W (Or.inl (on hinj 0 6 rfl)), r_runAt.other W (Or.inl (on hinj 0 6 rfl)), r_freshAt.other W (Or.inl (on hinj 0 6 rfl)), r_freshKept.other W (Or.inl (on hinj 0 6 rfl)), r_ranking.other W (Or.inl (on hinj 0 6 rfl)), r_rankedAnew.other W (Or.inl (on hinj 0 6 rfl)), r_at.other W (Or.inl (on hinj 0 6 rfl)), r_next.other W (Or.inl (on hinj 0 6 rfl)), u1_rank.other W (Or.inl (on hinj 1 6 rfl)), u1_ranking.other W (Or.inl (on hinj 1 6 rfl)), u1_count.other W (Or.inl (on hinj 1 6 rfl)), u2_rank.other W (Or.inl (on hinj 2 6 rfl)), u2_ranking.other W (Or.inl (on hinj 2 6 rfl)), u2_count.other W (Or.inl (on hinj 2 6 rfl)), u3_rank.other W (Or.inl (on hinj 3 6 rfl)), u3_ranking.other W (Or.inl (on hinj 3 6 rfl)), u3_count.other W (Or.inl (on hinj 3 6 rfl)), a_l1.other W (on hinj 4 6 rfl), a_l2.other W (on hinj 5 6 rfl), own_setJ2 (a_l3.set W), a_i1.other W (on hinj 7 6 rfl), a_i2.other W (on hinj 8 6 rfl), a_i3.other W (on hinj 9 6 rfl), a_k.other W (on hinj 10 6 rfl)⟩
theorem own_w_i32 {Z : State} {a0 : Array Value} (hw : ∀ d ∈ tables_1, d.before a0 Z = true) {h h' : Heap} {n0 : Nat} {ad : Nat → Addr} {v_rn v_mg : Addr} {v_ra v_fa v_fk v_an v_at v_c1 v_c2 v_c3 v_i10 v_i11 v_i12 v_i20 v_i21 v_i22 v_i30 v_i31 v_i32 v_k0 v_k1 v_k2 : Int32} {v_nx v_l10 v_l11 v_l12 v_l20 v_l21 v_l22 v_l30 v_l31 v_l32 : Int64} {v : Int32} (H : own_H Z h n0 ad v_rn v_mg v_ra v_fa v_fk v_an v_at v_nx v_c1 v_c2 v_c3 v_l10 v_l11 v_l12 v_l20 v_l21 v_l22 v_l30 v_l31 v_l32 v_i10 v_i11 v_i12 v_i20 v_i21 v_i22 v_i30 v_i31 v_i32 v_k0 v_k1 v_k2) (W : Wr h h' (ad 9) (2 : Int32).toNatClampNeg (.int v)) : own_H Z h' n0 ad v_rn v_mg v_ra v_fa v_fk v_an v_at v_nx v_c1 v_c2 v_c3 v_l10 v_l11 v_l12 v_l20 v_l21 v_l22 v_l30 v_l31 v_l32 v_i10 v_i11 v_i12 v_i20 v_i21 v_i22 v_i30 v_i31 v v_k0 v_k1 v_k2 := by
  obtain ⟨hinj, hge, E0, E1, E2, E3, r_run, r_merged, r_fresh, r_serverBits, r_freeBits, r_serverMask, r_mostFree, r_mostSpend, r_runAt, r_freshAt, r_freshKept, r_ranking, r_rankedAnew, r_at, r_next, u1_rank, u1_ranking, u1_count, u2_rank, u2_ranking, u2_count, u3_rank, u3_ranking, u3_count, a_l1, a_l2, a_l3, a_i1, a_i2, a_i3, a_k⟩ := H
  exact ⟨hinj, hge, E0.wr W, E1.wr W, E2.wr W, E3.wr W, r_run.other W (Or.inl (on hinj 0 9 rfl)), r_merged.other W (Or.inl (on hinj 0 9 rfl)), r_fresh.other W (Or.inl (on hinj 0 9 rfl)), r_serverBits.other W (Or.inl (on hinj 0 9 rfl)), r_freeBits.other W (Or.inl (on hinj 0 9 rfl)), r_serverMask.other W (Or.inl (on hinj 0 9 rfl)), r_mostFree.other W (Or.inl (on hinj 0 9 rfl)), r_mostSpend.other W (Or.inl (on hinj 0 9 rfl)), r_runAt.other W (Or.inl (on hinj 0 9 rfl)), r_freshAt.other W (Or.inl (on hinj 0 9 rfl)), r_freshKept.other W (Or.inl (on hinj 0 9 rfl)), r_ranking.other W (Or.inl (on hinj 0 9 rfl)), r_rankedAnew.other W (Or.inl (on hinj 0 9 rfl)), r_at.other W (Or.inl (on hinj 0 9 rfl)), r_next.other W (Or.inl (on hinj 0 9 rfl)), u1_rank.other W (Or.inl (on hinj 1 9 rfl)), u1_ranking.other W (Or.inl (on hinj 1 9 rfl)), u1_count.other W (Or.inl (on hinj 1 9 rfl)), u2_rank.other W (Or.inl (on hinj 2 9 rfl)), u2_ranking.other W (Or.inl (on hinj 2 9 rfl)), u2_count.other W (Or.inl (on hinj 2 9 rfl)), u3_rank.other W (Or.inl (on hinj 3 9 rfl)), u3_ranking.other W (Or.inl (on hinj 3 9 rfl)), u3_count.other W (Or.inl (on hinj 3 9 rfl)), a_l1.other W (on hinj 4 9 rfl), a_l2.other W (on hinj 5 9 rfl), a_l3.other W (on hinj 6 9 rfl), a_i1.other W (on hinj 7 9 rfl), a_i2.other W (on hinj 8 9 rfl), own_setI2 (a_i3.set W), a_k.other W (on hinj 10 9 rfl)⟩
set_option maxRecDepth 65536 in
set_option maxHeartbeats 40000000 in
theorem own_c9_2 (l : Launch) (Z : State) (a0 : Array Value) (hw : ∀ d ∈ tables_1, d.before a0 Z = true) (h0 : Heap) (n0 : Nat) (ad : Nat → Addr) (pk : Int64) (of : Int32) (v_rn : Addr) (v_mg : Addr) (v_ra : Int32) (v_fa : Int32) (v_fk : Int32) (v_an : Int32) (v_at : Int32) (v_nx : Int64) (v_c1 : Int32) (v_c2 : Int32) (v_l10 : Int64) (v_l11 : Int64) (v_l12 : Int64) (v_l20 : Int64) (v_l21 : Int64) (v_l22 : Int64) (v_l30 : Int64) (v_l31 : Int64) (v_l32 : Int64) (v_i10 : Int32) (v_i11 : Int32) (v_i12 : Int32) (v_i20 : Int32) (v_i21 : Int32) (v_i22 : Int32) (v_i30 : Int32) (v_i31 : Int32) (v_i32 : Int32) (v_k0 : Int32) (v_k1 : Int32) (v_k2 : Int32) (H : own_H Z h0 n0 ad v_rn v_mg v_ra v_fa v_fk v_an v_at v_nx v_c1 v_c2 (2 : Int32) v_l10 v_l11 v_l12 v_l20 v_l21 v_l22 v_l30 v_l31 v_l32 v_i10 v_i11 v_i12 v_i20 v_i21 v_i22 v_i30 v_i31 v_i32 v_k0 v_k1 v_k2) :
    Con l Z (⟨"com/example/nearfield/nearfield/job/RankedReads$Run", "add", "(JI)V"⟩ : MethodName) prog_99_method_4_code 4 none [] ({ frames := 0, cells := 0, slots := 0, locals := 0 } : Room) 0 0 #[(.ref (ad 3)), (.long pk), (.int of)] h0 (fun r h L => r = none ∧ own_H Z h n0 ad v_rn v_mg v_ra v_fa v_fk v_an v_at v_nx v_c1 v_c2 (3 : Int32) v_l10 v_l11 v_l12 v_l20 v_l21 v_l22 v_l30 v_l31 pk v_i10 v_i11 v_i12 v_i20 v_i21 v_i22 v_i30 v_i31 of v_k0 v_k1 v_k2 ∧ Fr n0 L) := by
  refine Con.of own_pn11 ?_
  intro pg ev s_ m bl mt cd s₁ hx hby hml hown hnm hret hlk hZ X0 e0
  rw [ef_9]
  show Gd _ _ _ _ (s₁.setTop (mkF m 0 #[.val (.ref (ad 3)), .val (.long pk), .second, .val (.int of)] []))
  have N0 := Fr.nil n0
  refine Gd.go (fun _ w_k => XS.aloadN X0.here hx rfl (hb hby d9_0) rfl rfl w_k) ?_
  show Gd _ _ _ _ (s₁.setTop (mkF m 1 #[.val (.ref (ad 3)), .val (.long pk), .second, .val (.int of)] [(.ref (ad 3))]))
  obtain ⟨T1, X1, e1, st1⟩ := getF X0 hx hZ hown (host := "") (Or.inl (ow hw 71 rfl)) Via.refl e0 H.2.2.2.2.2.2.2.2.2.2.2.2.2.2.2.2.2.2.2.2.2.2.2.2.2.2.2.2.2.1 (g := (mkF m 1 #[.val (.ref (ad 3)), .val (.long pk), .second, .val (.int of)] [(.ref (ad 3))])) rfl rfl (hb hby d9_1)
  refine Gd.go (fun _ w_k => st1 _ (XS.aloadN X1.here hx rfl (hb hby d9_4) rfl rfl w_k)) ?_
  show Gd _ _ _ _ (T1.setTop (mkF m 5 #[.val (.ref (ad 3)), .val (.long pk), .second, .val (.int of)] [(.ref (ad 3)), (.int (2 : Int32))]))
  obtain ⟨T2, X2, e2, st2⟩ := getF X1 hx hZ hown (host := "") (Or.inl (ow hw 19 rfl)) Via.refl e1 H.2.2.2.2.2.2.2.2.2.2.2.2.2.2.2.2.2.2.2.2.2.2.2.2.2.2.2.1 (g := (mkF m 5 #[.val (.ref (ad 3)), .val (.long pk), .second, .val (.int of)] [(.ref (ad 3)), (.int (2 : Int32))])) rfl rfl (hb hby d9_5)
  refine Gd.go (fun _ w_k => st2 _ (own_len X2 hx hZ e2 H.2.2.2.2.2.2.2.2.2.2.2.2.2.2.2.2.2.2.2.2.2.2.2.2.2.2.2.2.2.2.2.2.1 (z := (16 : Int32)) rfl (g := (mkF m 8 #[.val (.ref (ad 3)), .val (.long pk), .second, .val (.int of)] [(.ref (ad 6)), (.int (2 : Int32))])) rfl rfl (hb hby d9_8) _ (XS.icmpYes X2.here hx rfl (pc0 := 9) (pc' := 46) rfl (hb hby d9_9) rfl (feq (by decide)).2 (by decide) (by decide) w_k))) ?_
  show Gd _ _ _ _ (T2.setTop (mkF m 46 #[.val (.ref (ad 3)), .val (.long pk), .second, .val (.int of)] []))
  refine Gd.go (fun _ w_k => XS.aloadN X2.here hx rfl (hb hby d9_46) rfl rfl w_k) ?_
  show Gd _ _ _ _ (T2.setTop (mkF m 47 #[.val (.ref (ad 3)), .val (.long pk), .second, .val (.int of)] [(.ref (ad 3))]))
  obtain ⟨T3, X3, e3, st3⟩ := getF X2 hx hZ hown (host := "") (Or.inl (ow hw 19 rfl)) Via.refl e2 H.2.2.2.2.2.2.2.2.2.2.2.2.2.2.2.2.2.2.2.2.2.2.2.2.2.2.2.1 (g := (mkF m 47 #[.val (.ref (ad 3)), .val (.long pk), .second, .val (.int of)] [(.ref (ad 3))])) rfl rfl (hb hby d9_47)
  refine Gd.go (fun _ w_k => st3 _ (XS.aloadN X3.here hx rfl (hb hby d9_50) rfl rfl w_k)) ?_
  show Gd _ _ _ _ (T3.setTop (mkF m 51 #[.val (.ref (ad 3)), .val (.long pk), .second, .val (.int of)] [(.ref (ad 3)), (.ref (ad 6))]))
  obtain ⟨T4, X4, e4, st4⟩ := getF X3 hx hZ hown (host := "") (Or.inl (ow hw 71 rfl)) Via.refl e3 H.2.2.2.2.2.2.2.2.2.2.2.2.2.2.2.2.2.2.2.2.2.2.2.2.2.2.2.2.2.1 (g := (mkF m 51 #[.val (.ref (ad 3)), .val (.long pk), .second, .val (.int of)] [(.ref (ad 3)), (.ref (ad 6))])) rfl rfl (hb hby d9_51)
  refine Gd.go (fun _ w_k => st4 _ (XS.lloadN X4.here hx rfl (hb hby d9_54) rfl w_k)) ?_
  show Gd _ _ _ _ (T4.setTop (mkF m 55 #[.val (.ref (ad 3)), .val (.long pk), .second, .val (.int of)] [(.long pk), (.int (2 : Int32)), (.ref (ad 6))]))
  obtain ⟨T5, h5, X5, e5, W5, st5⟩ := own_stJ X4 hx hZ e4 H.2.2.2.2.2.2.2.2.2.2.2.2.2.2.2.2.2.2.2.2.2.2.2.2.2.2.2.2.2.2.2.2.1 (j := (2 : Int32)) (by decide) (by decide) (g := (mkF m 55 #[.val (.ref (ad 3)), .val (.long pk), .second, .val (.int of)] [(.long pk), (.int (2 : Int32)), (.ref (ad 6))])) rfl rfl (hb hby d9_55)
  refine Gd.go (fun _ w_k => st5 _ w_k) ?_
  have H6 := own_w_l32 hw H W5
  have xN7 := Fr.snoc X5 N0 (H.2.1 6 (by decide))
  show Gd _ _ _ _ (T5.setTop (mkF m 56 #[.val (.ref (ad 3)), .val (.long pk), .second, .val (.int of)] []))
  refine Gd.go (fun _ w_k => XS.aloadN X5.here hx rfl (hb hby d9_56) rfl rfl w_k) ?_
  show Gd _ _ _ _ (T5.setTop (mkF m 57 #[.val (.ref (ad 3)), .val (.long pk), .second, .val (.int of)] [(.ref (ad 3))]))
  obtain ⟨T8, X8, e8, st8⟩ := getF X5 hx hZ hown (host := "") (Or.inl (ow hw 22 rfl)) Via.refl e5 H6.2.2.2.2.2.2.2.2.2.2.2.2.2.2.2.2.2.2.2.2.2.2.2.2.2.2.2.2.1 (g := (mkF m 57 #[.val (.ref (ad 3)), .val (.long pk), .second, .val (.int of)] [(.ref (ad 3))])) rfl rfl (hb hby d9_57)
  refine Gd.go (fun _ w_k => st8 _ (XS.aloadN X8.here hx rfl (hb hby d9_60) rfl rfl w_k)) ?_
  show Gd _ _ _ _ (T8.setTop (mkF m 61 #[.val (.ref (ad 3)), .val (.long pk), .second, .val (.int of)] [(.ref (ad 3)), (.ref (ad 9))]))
  obtain ⟨T9, X9, e9, st9⟩ := getF X8 hx hZ hown (host := "") (Or.inl (ow hw 71 rfl)) Via.refl e8 H6.2.2.2.2.2.2.2.2.2.2.2.2.2.2.2.2.2.2.2.2.2.2.2.2.2.2.2.2.2.1 (g := (mkF m 61 #[.val (.ref (ad 3)), .val (.long pk), .second, .val (.int of)] [(.ref (ad 3)), (.ref (ad 9))])) rfl rfl (hb hby d9_61)
  refine Gd.go (fun _ w_k => st9 _ (XS.iloadN X9.here hx rfl (hb hby d9_64) rfl w_k)) ?_
  show Gd _ _ _ _ (T9.setTop (mkF m 65 #[.val (.ref (ad 3)), .val (.long pk), .second, .val (.int of)] [(.int of), (.int (2 : Int32)), (.ref (ad 9))]))
  obtain ⟨T10, h10, X10, e10, W10, st10⟩ := own_stI X9 hx hZ e9 H6.2.2.2.2.2.2.2.2.2.2.2.2.2.2.2.2.2.2.2.2.2.2.2.2.2.2.2.2.2.2.2.2.2.2.2.1 (j := (2 : Int32)) (by decide) (by decide) (g := (mkF m 65 #[.val (.ref (ad 3)), .val (.long pk), .second, .val (.int of)] [(.int of), (.int (2 : Int32)), (.ref (ad 9))])) rfl rfl (hb hby d9_65)
  refine Gd.go (fun _ w_k => st10 _ w_k) ?_
  have H11 := own_w_i32 hw H6 W10
  have xN12 := Fr.snoc X10 xN7 (H.2.1 9 (by decide))
  show Gd _ _ _ _ (T10.setTop (mkF m 66 #[.val (.ref (ad 3)), .val (.long pk), .second, .val (.int of)] []))
  refine Gd.go (fun _ w_k => XS.aloadN X10.here hx rfl (hb hby d9_66) rfl rfl (XS.dup X10.here hx rfl (hb hby d9_67) rfl rfl w_k)) ?_
  show Gd _ _ _ _ (T10.setTop (mkF m 68 #[.val (.ref (ad 3)), .val (.long pk), .second, .val (.int of)] [(.ref (ad 3)), (.ref (ad 3))]))
  obtain ⟨T13, X13, e13, st13⟩ := getF X10 hx hZ hown (host := "") (Or.inl (ow hw 71 rfl)) Via.refl e10 H11.2.2.2.2.2.2.2.2.2.2.2.2.2.2.2.2.2.2.2.2.2.2.2.2.2.2.2.2.2.1 (g := (mkF m 68 #[.val (.ref (ad 3)), .val (.long pk), .second, .val (.int of)] [(.ref (ad 3)), (.ref (ad 3))])) rfl rfl (hb hby d9_68)
  refine Gd.go (fun _ w_k => st13 _ (XS.iconst X13.here hx rfl (hb hby d9_71) (XS.iadd X13.here hx rfl (hb hby d9_72) rfl w_k))) ?_
  show Gd _ _ _ _ (T13.setTop (mkF m 73 #[.val (.ref (ad 3)), .val (.long pk), .second, .val (.int of)] [(.int ((2 : Int32) + (1 : Int32))), (.ref (ad 3))]))
  rw [show ((2 : Int32) + (1 : Int32)) = (3 : Int32) from by decide]
  show Gd _ _ _ _ (T13.setTop (mkF m 73 #[.val (.ref (ad 3)), .val (.long pk), .second, .val (.int of)] [(.int (3 : Int32)), (.ref (ad 3))]))
  obtain ⟨T14, h14, X14, e14, W14, st14⟩ := putF X13 hx hZ hown (host := "") (Or.inl (ow hw 71 rfl)) Via.refl e13 H11.2.2.2.2.2.2.2.2.2.2.2.2.2.2.2.2.2.2.2.2.2.2.2.2.2.2.2.2.2.1 H11.2.2.2.2.2.1 (Or.inl (ow hw 72 rfl)) (ow hw 12 rfl) (ty := .int) (by decide) rfl rfl (g := (mkF m 73 #[.val (.ref (ad 3)), .val (.long pk), .second, .val (.int of)] [(.int (3 : Int32)), (.ref (ad 3))])) rfl rfl (hb hby d9_73)
  refine Gd.go (fun _ w_k => st14 _ w_k) ?_
  have H15 := own_w_c3 hw H11 W14
  have xN16 := Fr.snoc X14 xN12 (H.2.1 3 (by decide))
  show Gd _ _ _ _ (T14.setTop (mkF m 76 #[.val (.ref (ad 3)), .val (.long pk), .second, .val (.int of)] []))
  refine own_retV X14 hx hret hlk (hb hby d9_76) ?_ (by decide) (by decide)
  rw [e14]
  exact ⟨rfl, H15, xN16⟩
set_option maxRecDepth 65536 in
set_option maxHeartbeats 40000000 in
theorem own_c6_2 (l : Launch) (Z : State) (a0 : Array Value) (hw : ∀ d ∈ tables_1, d.before a0 Z = true) (h0 : Heap) (n0 : Nat) (ad : Nat → Addr) (v_rn : Addr) (v_mg : Addr) (v_ra : Int32) (v_fa : Int32) (v_fk : Int32) (v_an : Int32) (v_at : Int32) (v_nx : Int64) (v_c1 : Int32) (v_c2 : Int32) (v_l10 : Int64) (v_l11 : Int64) (v_l12 : Int64) (v_l20 : Int64) (v_l21 : Int64) (v_l22 : Int64) (v_l30 : Int64) (v_l31 : Int64) (v_l32 : Int64) (v_i10 : Int32) (v_i11 : Int32) (v_i12 : Int32) (v_i20 : Int32) (v_i21 : Int32) (v_i22 : Int32) (v_i30 : Int32) (v_i31 : Int32) (v_i32 : Int32) (v_k0 : Int32) (v_k1 : Int32) (v_k2 : Int32) (H : own_H Z h0 n0 ad v_rn v_mg v_ra v_fa v_fk v_an v_at v_nx v_c1 v_c2 (2 : Int32) v_l10 v_l11 v_l12 v_l20 v_l21 v_l22 v_l30 v_l31 v_l32 v_i10 v_i11 v_i12 v_i20 v_i21 v_i22 v_i30 v_i31 v_i32 v_k0 v_k1 v_k2) (u f : Int64) (hu : 0 ≤ u.toInt ∧ u.toInt ≤ 2147483647) (hf : 0 ≤ f.toInt ∧ f.toInt ≤ 1073741823) :
    Con l Z (⟨"com/example/nearfield/nearfield/job/RankedReads", "rank", "(JJI)V"⟩ : MethodName) prog_98_method_4_code 6 none [] ({ frames := 2, cells := 0, slots := 0, locals := 34 } : Room) 0 0 #[(.ref (ad 0)), (.long u), (.long f), (.int (2 : Int32))] h0 (fun r h L => r = none ∧ own_H Z h n0 ad v_rn v_mg v_ra v_fa v_fk v_an v_at v_nx v_c1 v_c2 (3 : Int32) v_l10 v_l11 v_l12 v_l20 v_l21 v_l22 v_l30 v_l31 (own_q u f (2 : Int64)) v_i10 v_i11 v_i12 v_i20 v_i21 v_i22 v_i30 v_i31 v_k2 v_k0 v_k1 v_k2 ∧ Fr n0 L) := by
  refine Con.of own_pn12 ?_
  intro pg ev s_ m bl mt cd s₁ hx hby hml hown hnm hret hlk hZ X0 e0
  rw [ef_6]
  show Gd _ _ _ _ (s₁.setTop (mkF m 0 #[.val (.ref (ad 0)), .val (.long u), .second, .val (.long f), .second, .val (.int (2 : Int32))] []))
  have N0 := Fr.nil n0
  refine Gd.go (fun _ w_k => XS.aloadN X0.here hx rfl (hb hby d6_0) rfl rfl w_k) ?_
  show Gd _ _ _ _ (s₁.setTop (mkF m 1 #[.val (.ref (ad 0)), .val (.long u), .second, .val (.long f), .second, .val (.int (2 : Int32))] [(.ref (ad 0))]))
  obtain ⟨T1, X1, e1, st1⟩ := getF X0 hx hZ hown (host := "") (Or.inl (ow hw 28 rfl)) Via.refl e0 H.2.2.2.2.2.2.2.2.1 (g := (mkF m 1 #[.val (.ref (ad 0)), .val (.long u), .second, .val (.long f), .second, .val (.int (2 : Int32))] [(.ref (ad 0))])) rfl rfl (hb hby d6_1)
  refine Gd.go (fun _ w_k => st1 _ (XS.aloadN X1.here hx rfl (hb hby d6_4) rfl rfl (XS.lloadN X1.here hx rfl (hb hby d6_5) rfl (XS.lloadN X1.here hx rfl (hb hby d6_6) rfl (XS.iload X1.here hx rfl (hb hby d6_7) rfl w_k))))) ?_
  show Gd _ _ _ _ (T1.setTop (mkF m 9 #[.val (.ref (ad 0)), .val (.long u), .second, .val (.long f), .second, .val (.int (2 : Int32))] [(.int (2 : Int32)), (.long f), (.long u), (.ref (ad 0)), (.ref (ad 3))]))
  obtain ⟨T2, X2, e2, st2⟩ := own_callVP X1 hx hZ (C := "com/example/nearfield/nearfield/job/RankedReads") (y := (⟨"com/example/nearfield/nearfield/job/RankedReads", "packed", "(JJI)J"⟩ : MethodName)) hown (ow hw 56 rfl) (ow hw 57 rfl) (ow hw 59 rfl) (ow hw 58 rfl) (ow hw 4 rfl) (ow hw 60 rfl) (by decide) H.2.2.1 (W := 1) (own_c7_2 l Z a0 hw h0 n0 ad v_rn v_mg v_ra v_fa v_fk v_an v_at v_nx v_c1 v_c2 (2 : Int32) v_l10 v_l11 v_l12 v_l20 v_l21 v_l22 v_l30 v_l31 v_l32 v_i10 v_i11 v_i12 v_i20 v_i21 v_i22 v_i30 v_i31 v_i32 v_k0 v_k1 v_k2 H u f hu hf) rfl rfl e1 (by decide) (by decide) (g := (mkF m 9 #[.val (.ref (ad 0)), .val (.long u), .second, .val (.long f), .second, .val (.int (2 : Int32))] [(.int (2 : Int32)), (.long f), (.long u), (.ref (ad 0)), (.ref (ad 3))])) rfl (by rw [hml]; rfl) (argsL := [(.long u), (.long f), (.int (2 : Int32))]) (rest := [(.ref (ad 3))]) (lenOf own_pd1 rfl) rfl (Nat.le_of_eq rfl) (hb hby d6_9) rfl
  refine Gd.go (fun _ w_k => st2 _ (XS.aloadN X2.here hx rfl (hb hby d6_12) rfl rfl w_k)) ?_
  show Gd _ _ _ _ (T2.setTop (mkF m 13 #[.val (.ref (ad 0)), .val (.long u), .second, .val (.long f), .second, .val (.int (2 : Int32))] [(.ref (ad 0)), (.long (own_q u f (2 : Int64))), (.ref (ad 3))]))
  obtain ⟨T3, X3, e3, st3⟩ := getF X2 hx hZ hown (host := "") (Or.inl (ow hw 49 rfl)) Via.refl e2 H.2.2.2.2.2.2.2.2.2.2.2.2.2.2.2.2.2.1 (g := (mkF m 13 #[.val (.ref (ad 0)), .val (.long u), .second, .val (.long f), .second, .val (.int (2 : Int32))] [(.ref (ad 0)), (.long (own_q u f (2 : Int64))), (.ref (ad 3))])) rfl rfl (hb hby d6_13)
  refine Gd.go (fun _ w_k => st3 _ (XS.iload X3.here hx rfl (hb hby d6_16) rfl (own_ldI X3 hx hZ e3 H.2.2.2.2.2.2.2.2.2.2.2.2.2.2.2.2.2.2.2.2.2.2.2.2.2.2.2.2.2.2.2.2.2.2.2.2 (j := (2 : Int32)) (by decide) (by decide) (v := (.int v_k2)) rfl (g := (mkF m 18 #[.val (.ref (ad 0)), .val (.long u), .second, .val (.long f), .second, .val (.int (2 : Int32))] [(.int (2 : Int32)), (.ref (ad 10)), (.long (own_q u f (2 : Int64))), (.ref (ad 3))])) rfl rfl (hb hby d6_18) _ w_k))) ?_
  show Gd _ _ _ _ (T3.setTop (mkF m 19 #[.val (.ref (ad 0)), .val (.long u), .second, .val (.long f), .second, .val (.int (2 : Int32))] [(.int v_k2), (.long (own_q u f (2 : Int64))), (.ref (ad 3))]))
  obtain ⟨v4, T4, L4, X4, hQ4, st4⟩ := own_callV X3 hx hZ (C := "com/example/nearfield/nearfield/job/RankedReads$Run") (y := (⟨"com/example/nearfield/nearfield/job/RankedReads$Run", "add", "(JI)V"⟩ : MethodName)) hown (ow hw 66 rfl) (ow hw 67 rfl) (ow hw 69 rfl) (ow hw 68 rfl) (ow hw 13 rfl) (ow hw 70 rfl) (by decide) H.2.2.2.2.2.1 (W := 0) (own_c9_2 l Z a0 hw h0 n0 ad (own_q u f (2 : Int64)) v_k2 v_rn v_mg v_ra v_fa v_fk v_an v_at v_nx v_c1 v_c2 v_l10 v_l11 v_l12 v_l20 v_l21 v_l22 v_l30 v_l31 v_l32 v_i10 v_i11 v_i12 v_i20 v_i21 v_i22 v_i30 v_i31 v_i32 v_k0 v_k1 v_k2 H) rfl rfl e3 (by decide) (by decide) (g := (mkF m 19 #[.val (.ref (ad 0)), .val (.long u), .second, .val (.long f), .second, .val (.int (2 : Int32))] [(.int v_k2), (.long (own_q u f (2 : Int64))), (.ref (ad 3))])) rfl (by rw [hml]; rfl) (argsL := [(.long (own_q u f (2 : Int64))), (.int v_k2)]) (rest := []) (lenOf own_pd2 rfl) rfl (Nat.le_of_eq rfl) (hb hby d6_19) rfl (by decide) (by decide)
  obtain ⟨rfl, H9, N9⟩ := hQ4
  refine Gd.go (fun _ w_k => st4 _ w_k) ?_
  show Gd _ _ _ _ (T4.setTop (mkF m 22 #[.val (.ref (ad 0)), .val (.long u), .second, .val (.long f), .second, .val (.int (2 : Int32))] []))
  refine own_retV X4 hx hret hlk (hb hby d6_22) ?_ (by decide) (by decide)
  exact ⟨rfl, H9, (List.nil_append (α := Loc) _).symm ▸ N9⟩
def own_srt (x y z a b c : Int64) : Prop := (¬ b < a ∧ ¬ c < b) ∧ ((a = x ∧ b = y ∧ c = z) ∨ (a = x ∧ b = z ∧ c = y) ∨ (a = y ∧ b = x ∧ c = z) ∨ (a = y ∧ b = z ∧ c = x) ∨ (a = z ∧ b = x ∧ c = y) ∨ (a = z ∧ b = y ∧ c = x))
theorem own_k0 (x : Int32) : own_k 0 0 0 x = 0 := by
  unfold own_k
  split
  · rfl
  · split <;> rfl
theorem own_pn13 : plainFor (⟨"java/util/DualPivotQuicksort", "insertionSort", "([JII)V"⟩ : MethodName) = true := by first | exact plainFor_of_name (by first | (simp [plainName, overriddenIn, x]; done) | decide +kernel) | decide +kernel
theorem ef_16 (m : MethodId) (q0 : Addr) (q1 : Int32) (q2 : Int32) : entryFrame m #[(.ref q0), (.int q1), (.int q2)] 7 = mkF m 0 #[.val (.ref q0), .val (.int q1), .val (.int q2), .unset, .unset, .unset, .unset] [] := by first | (simp [entryFrame, mkF, argsToLocals, Value.category, maxLocals]; done) | rfl
theorem d16_0 : decode jdk_2529_method_15_code 0 = .ok (.iload_n 1, 1) := by decide +kernel
theorem d16_1 : decode jdk_2529_method_15_code 1 = .ok (.istore 4, 2) := by decide +kernel
theorem d16_3 : decode jdk_2529_method_15_code 3 = .ok (.iinc 4 1, 3) := by decide +kernel
theorem d16_6 : decode jdk_2529_method_15_code 6 = .ok (.iload 4, 2) := by decide +kernel
theorem d16_8 : decode jdk_2529_method_15_code 8 = .ok (.iload_n 2, 1) := by decide +kernel
theorem d16_9 : decode jdk_2529_method_15_code 9 = .ok (.if_icmp .ge 60, 3) := by decide +kernel
theorem d16_12 : decode jdk_2529_method_15_code 12 = .ok (.aload_n 0, 1) := by decide +kernel
theorem d16_13 : decode jdk_2529_method_15_code 13 = .ok (.iload 4, 2) := by decide +kernel
theorem d16_15 : decode jdk_2529_method_15_code 15 = .ok (.dup, 1) := by decide +kernel
theorem d16_16 : decode jdk_2529_method_15_code 16 = .ok (.istore_n 3, 1) := by decide +kernel
theorem d16_17 : decode jdk_2529_method_15_code 17 = .ok (.laload, 1) := by decide +kernel
theorem d16_18 : decode jdk_2529_method_15_code 18 = .ok (.lstore 5, 2) := by decide +kernel
theorem d16_20 : decode jdk_2529_method_15_code 20 = .ok (.lload 5, 2) := by decide +kernel
theorem d16_22 : decode jdk_2529_method_15_code 22 = .ok (.aload_n 0, 1) := by decide +kernel
theorem d16_23 : decode jdk_2529_method_15_code 23 = .ok (.iload_n 3, 1) := by decide +kernel
theorem d16_24 : decode jdk_2529_method_15_code 24 = .ok (.iconst 1, 1) := by decide +kernel
theorem d16_25 : decode jdk_2529_method_15_code 25 = .ok (.isub, 1) := by decide +kernel
theorem d16_26 : decode jdk_2529_method_15_code 26 = .ok (.laload, 1) := by decide +kernel
theorem d16_27 : decode jdk_2529_method_15_code 27 = .ok (.lcmp, 1) := by decide +kernel
theorem d16_28 : decode jdk_2529_method_15_code 28 = .ok (.ifCond .ge 38, 3) := by decide +kernel
theorem d16_31 : decode jdk_2529_method_15_code 31 = .ok (.iinc 3 (-1), 3) := by decide +kernel
theorem d16_34 : decode jdk_2529_method_15_code 34 = .ok (.iload_n 3, 1) := by decide +kernel
theorem d16_35 : decode jdk_2529_method_15_code 35 = .ok (.iload_n 1, 1) := by decide +kernel
theorem d16_36 : decode jdk_2529_method_15_code 36 = .ok (.if_icmp .lt 23, 3) := by decide +kernel
theorem d16_39 : decode jdk_2529_method_15_code 39 = .ok (.lload 5, 2) := by decide +kernel
theorem d16_41 : decode jdk_2529_method_15_code 41 = .ok (.aload_n 0, 1) := by decide +kernel
theorem d16_42 : decode jdk_2529_method_15_code 42 = .ok (.iload_n 3, 1) := by decide +kernel
theorem d16_43 : decode jdk_2529_method_15_code 43 = .ok (.laload, 1) := by decide +kernel
theorem d16_44 : decode jdk_2529_method_15_code 44 = .ok (.lcmp, 1) := by decide +kernel
theorem d16_45 : decode jdk_2529_method_15_code 45 = .ok (.ifCond .ge 14, 3) := by decide +kernel
theorem d16_48 : decode jdk_2529_method_15_code 48 = .ok (.aload_n 0, 1) := by decide +kernel
theorem d16_49 : decode jdk_2529_method_15_code 49 = .ok (.iload_n 3, 1) := by decide +kernel
theorem d16_50 : decode jdk_2529_method_15_code 50 = .ok (.iconst 1, 1) := by decide +kernel
theorem d16_51 : decode jdk_2529_method_15_code 51 = .ok (.iadd, 1) := by decide +kernel
theorem d16_52 : decode jdk_2529_method_15_code 52 = .ok (.aload_n 0, 1) := by decide +kernel
theorem d16_53 : decode jdk_2529_method_15_code 53 = .ok (.iload_n 3, 1) := by decide +kernel
theorem d16_54 : decode jdk_2529_method_15_code 54 = .ok (.laload, 1) := by decide +kernel
theorem d16_55 : decode jdk_2529_method_15_code 55 = .ok (.lastore, 1) := by decide +kernel
theorem d16_56 : decode jdk_2529_method_15_code 56 = .ok (.goto (-25), 3) := by decide +kernel
theorem d16_59 : decode jdk_2529_method_15_code 59 = .ok (.aload_n 0, 1) := by decide +kernel
theorem d16_60 : decode jdk_2529_method_15_code 60 = .ok (.iload_n 3, 1) := by decide +kernel
theorem d16_61 : decode jdk_2529_method_15_code 61 = .ok (.iconst 1, 1) := by decide +kernel
theorem d16_62 : decode jdk_2529_method_15_code 62 = .ok (.iadd, 1) := by decide +kernel
theorem d16_63 : decode jdk_2529_method_15_code 63 = .ok (.lload 5, 2) := by decide +kernel
theorem d16_65 : decode jdk_2529_method_15_code 65 = .ok (.lastore, 1) := by decide +kernel
theorem d16_66 : decode jdk_2529_method_15_code 66 = .ok (.goto (-63), 3) := by decide +kernel
theorem d16_69 : decode jdk_2529_method_15_code 69 = .ok (.return_, 1) := by decide +kernel
set_option maxRecDepth 65536 in
set_option maxHeartbeats 40000000 in
theorem own_c16 (l : Launch) (Z : State) (a0 : Array Value) (hw : ∀ d ∈ tables_1, d.before a0 Z = true) (h0 : Heap) (n0 : Nat) (a : Addr) (ga : n0 ≤ a) (x y z : Int64) (A0 : ArF Z h0 a .long 16 (own_J x y z)) :
    Con l Z (⟨"java/util/DualPivotQuicksort", "insertionSort", "([JII)V"⟩ : MethodName) jdk_2529_method_15_code 7 none [] ({ frames := 0, cells := 0, slots := 0, locals := 0 } : Room) 0 0 #[(.ref a), (.int (0 : Int32)), (.int (3 : Int32))] h0 (fun r h L => r = none ∧ Keep h0 h [a] ∧ (∃ x' y' z', ArF Z h a .long 16 (own_J x' y' z') ∧ own_srt x y z x' y' z') ∧ Fr n0 L) := by
  refine Con.of own_pn13 ?_
  intro pg ev s_ m bl mt cd s₁ hx hby hml hown hnm hret hlk hZ X0 e0
  rw [ef_16]
  show Gd _ _ _ _ (s₁.setTop (mkF m 0 #[.val (.ref a), .val (.int (0 : Int32)), .val (.int (3 : Int32)), .unset, .unset, .unset, .unset] []))
  have N0 := Fr.nil n0
  have K0 := Keep.refl h0 [a]
  refine Gd.go (fun _ w_k => XS.iloadN X0.here hx rfl (hb hby d16_0) rfl (XS.istore X0.here hx rfl (hb hby d16_1) rfl (l' := #[.val (.ref a), .val (.int (0 : Int32)), .val (.int (3 : Int32)), .unset, .val (.int (0 : Int32)), .unset, .unset]) rfl (XS.iinc X0.here hx rfl (hb hby d16_3) rfl (l' := #[.val (.ref a), .val (.int (0 : Int32)), .val (.int (3 : Int32)), .unset, .val (.int ((0 : Int32) + (1 : Int32))), .unset, .unset]) rfl w_k))) ?_
  show Gd _ _ _ _ (s₁.setTop (mkF m 6 #[.val (.ref a), .val (.int (0 : Int32)), .val (.int (3 : Int32)), .unset, .val (.int ((0 : Int32) + (1 : Int32))), .unset, .unset] []))
  rw [show ((0 : Int32) + (1 : Int32)) = (1 : Int32) from by decide]
  show Gd _ _ _ _ (s₁.setTop (mkF m 6 #[.val (.ref a), .val (.int (0 : Int32)), .val (.int (3 : Int32)), .unset, .val (.int (1 : Int32)), .unset, .unset] []))
  refine Gd.go (fun _ w_k => XS.iload X0.here hx rfl (hb hby d16_6) rfl (XS.iloadN X0.here hx rfl (hb hby d16_8) rfl (XS.icmpNo X0.here hx rfl (hb hby d16_9) rfl (tlt (by decide)).2.1 w_k))) ?_
  show Gd _ _ _ _ (s₁.setTop (mkF m 12 #[.val (.ref a), .val (.int (0 : Int32)), .val (.int (3 : Int32)), .unset, .val (.int (1 : Int32)), .unset, .unset] []))
  refine Gd.go (fun _ w_k => XS.aloadN X0.here hx rfl (hb hby d16_12) rfl rfl (XS.iload X0.here hx rfl (hb hby d16_13) rfl (XS.dup X0.here hx rfl (hb hby d16_15) rfl rfl (XS.istoreN X0.here hx rfl (hb hby d16_16) rfl (l' := #[.val (.ref a), .val (.int (0 : Int32)), .val (.int (3 : Int32)), .val (.int (1 : Int32)), .val (.int (1 : Int32)), .unset, .unset]) rfl (own_ldJ X0 hx hZ e0 A0 (j := (1 : Int32)) (by decide) (by decide) (v := (.long y)) rfl (g := (mkF m 17 #[.val (.ref a), .val (.int (0 : Int32)), .val (.int (3 : Int32)), .val (.int (1 : Int32)), .val (.int (1 : Int32)), .unset, .unset] [(.int (1 : Int32)), (.ref a)])) rfl rfl (hb hby d16_17) _ (XS.lstore X0.here hx rfl (hb hby d16_18) rfl (l' := #[.val (.ref a), .val (.int (0 : Int32)), .val (.int (3 : Int32)), .val (.int (1 : Int32)), .val (.int (1 : Int32)), .val (.long y), .second]) rfl (XS.lload X0.here hx rfl (hb hby d16_20) rfl (XS.aloadN X0.here hx rfl (hb hby d16_22) rfl rfl (XS.iloadN X0.here hx rfl (hb hby d16_23) rfl (XS.iconst X0.here hx rfl (hb hby d16_24) (XS.isub X0.here hx rfl (hb hby d16_25) rfl w_k))))))))))) ?_
  show Gd _ _ _ _ (s₁.setTop (mkF m 26 #[.val (.ref a), .val (.int (0 : Int32)), .val (.int (3 : Int32)), .val (.int (1 : Int32)), .val (.int (1 : Int32)), .val (.long y), .second] [(.int ((1 : Int32) - (1 : Int32))), (.ref a), (.long y)]))
  rw [show ((1 : Int32) - (1 : Int32)) = (0 : Int32) from by decide]
  show Gd _ _ _ _ (s₁.setTop (mkF m 26 #[.val (.ref a), .val (.int (0 : Int32)), .val (.int (3 : Int32)), .val (.int (1 : Int32)), .val (.int (1 : Int32)), .val (.long y), .second] [(.int (0 : Int32)), (.ref a), (.long y)]))
  refine Gd.go (fun _ w_k => own_ldJ X0 hx hZ e0 A0 (j := (0 : Int32)) (by decide) (by decide) (v := (.long x)) rfl (g := (mkF m 26 #[.val (.ref a), .val (.int (0 : Int32)), .val (.int (3 : Int32)), .val (.int (1 : Int32)), .val (.int (1 : Int32)), .val (.long y), .second] [(.int (0 : Int32)), (.ref a), (.long y)])) rfl rfl (hb hby d16_26) _ (XS.lcmp X0.here hx rfl (hb hby d16_27) rfl w_k)) ?_
  show Gd _ _ _ _ (s₁.setTop (mkF m 28 #[.val (.ref a), .val (.int (0 : Int32)), .val (.int (3 : Int32)), .val (.int (1 : Int32)), .val (.int (1 : Int32)), .val (.long y), .second] [(.int (lcmpW y x))]))
  by_cases hc1 : y < x
  · refine Gd.go (fun _ w_k => XS.ifNo X0.here hx rfl (hb hby d16_28) rfl ((if0 _ _).trans (tlt ((lw_lt _ _).mpr hc1)).2.1) w_k) ?_
    show Gd _ _ _ _ (s₁.setTop (mkF m 31 #[.val (.ref a), .val (.int (0 : Int32)), .val (.int (3 : Int32)), .val (.int (1 : Int32)), .val (.int (1 : Int32)), .val (.long y), .second] []))
    refine Gd.go (fun _ w_k => XS.iinc X0.here hx rfl (hb hby d16_31) rfl (l' := #[.val (.ref a), .val (.int (0 : Int32)), .val (.int (3 : Int32)), .val (.int ((1 : Int32) + (-1 : Int32))), .val (.int (1 : Int32)), .val (.long y), .second]) rfl w_k) ?_
    show Gd _ _ _ _ (s₁.setTop (mkF m 34 #[.val (.ref a), .val (.int (0 : Int32)), .val (.int (3 : Int32)), .val (.int ((1 : Int32) + (-1 : Int32))), .val (.int (1 : Int32)), .val (.long y), .second] []))
    rw [show ((1 : Int32) + (-1 : Int32)) = (0 : Int32) from by decide]
    show Gd _ _ _ _ (s₁.setTop (mkF m 34 #[.val (.ref a), .val (.int (0 : Int32)), .val (.int (3 : Int32)), .val (.int (0 : Int32)), .val (.int (1 : Int32)), .val (.long y), .second] []))
    refine Gd.go (fun _ w_k => XS.iloadN X0.here hx rfl (hb hby d16_34) rfl (XS.iloadN X0.here hx rfl (hb hby d16_35) rfl (XS.icmpNo X0.here hx rfl (hb hby d16_36) rfl (flt (by decide)).1 w_k))) ?_
    show Gd _ _ _ _ (s₁.setTop (mkF m 39 #[.val (.ref a), .val (.int (0 : Int32)), .val (.int (3 : Int32)), .val (.int (0 : Int32)), .val (.int (1 : Int32)), .val (.long y), .second] []))
    refine Gd.go (fun _ w_k => XS.lload X0.here hx rfl (hb hby d16_39) rfl (XS.aloadN X0.here hx rfl (hb hby d16_41) rfl rfl (XS.iloadN X0.here hx rfl (hb hby d16_42) rfl (own_ldJ X0 hx hZ e0 A0 (j := (0 : Int32)) (by decide) (by decide) (v := (.long x)) rfl (g := (mkF m 43 #[.val (.ref a), .val (.int (0 : Int32)), .val (.int (3 : Int32)), .val (.int (0 : Int32)), .val (.int (1 : Int32)), .val (.long y), .second] [(.int (0 : Int32)), (.ref a), (.long y)])) rfl rfl (hb hby d16_43) _ (XS.lcmp X0.here hx rfl (hb hby d16_44) rfl (XS.ifNo X0.here hx rfl (hb hby d16_45) rfl ((if0 _ _).trans (tlt ((lw_lt _ _).mpr hc1)).2.1) w_k)))))) ?_
    show Gd _ _ _ _ (s₁.setTop (mkF m 48 #[.val (.ref a), .val (.int (0 : Int32)), .val (.int (3 : Int32)), .val (.int (0 : Int32)), .val (.int (1 : Int32)), .val (.long y), .second] []))
    refine Gd.go (fun _ w_k => XS.aloadN X0.here hx rfl (hb hby d16_48) rfl rfl (XS.iloadN X0.here hx rfl (hb hby d16_49) rfl (XS.iconst X0.here hx rfl (hb hby d16_50) (XS.iadd X0.here hx rfl (hb hby d16_51) rfl w_k)))) ?_
    show Gd _ _ _ _ (s₁.setTop (mkF m 52 #[.val (.ref a), .val (.int (0 : Int32)), .val (.int (3 : Int32)), .val (.int (0 : Int32)), .val (.int (1 : Int32)), .val (.long y), .second] [(.int ((0 : Int32) + (1 : Int32))), (.ref a)]))
    rw [show ((0 : Int32) + (1 : Int32)) = (1 : Int32) from by decide]
    show Gd _ _ _ _ (s₁.setTop (mkF m 52 #[.val (.ref a), .val (.int (0 : Int32)), .val (.int (3 : Int32)), .val (.int (0 : Int32)), .val (.int (1 : Int32)), .val (.long y), .second] [(.int (1 : Int32)), (.ref a)]))
    refine Gd.go (fun _ w_k => XS.aloadN X0.here hx rfl (hb hby d16_52) rfl rfl (XS.iloadN X0.here hx rfl (hb hby d16_53) rfl (own_ldJ X0 hx hZ e0 A0 (j := (0 : Int32)) (by decide) (by decide) (v := (.long x)) rfl (g := (mkF m 54 #[.val (.ref a), .val (.int (0 : Int32)), .val (.int (3 : Int32)), .val (.int (0 : Int32)), .val (.int (1 : Int32)), .val (.long y), .second] [(.int (0 : Int32)), (.ref a), (.int (1 : Int32)), (.ref a)])) rfl rfl (hb hby d16_54) _ w_k))) ?_
    show Gd _ _ _ _ (s₁.setTop (mkF m 55 #[.val (.ref a), .val (.int (0 : Int32)), .val (.int (3 : Int32)), .val (.int (0 : Int32)), .val (.int (1 : Int32)), .val (.long y), .second] [(.long x), (.int (1 : Int32)), (.ref a)]))
    obtain ⟨T2, h2, X2, e2, W2, st2⟩ := own_stJ X0 hx hZ e0 A0 (j := (1 : Int32)) (by decide) (by decide) (g := (mkF m 55 #[.val (.ref a), .val (.int (0 : Int32)), .val (.int (3 : Int32)), .val (.int (0 : Int32)), .val (.int (1 : Int32)), .val (.long y), .second] [(.long x), (.int (1 : Int32)), (.ref a)])) rfl rfl (hb hby d16_55)
    refine Gd.go (fun _ w_k => st2 _ w_k) ?_
    have xF3 := A0.set W2
    have xN4 := Fr.snoc X2 N0 ga
    have xK5 := Keep.wr K0 W2 (Or.inl (by simp))
    show Gd _ _ _ _ (T2.setTop (mkF m 56 #[.val (.ref a), .val (.int (0 : Int32)), .val (.int (3 : Int32)), .val (.int (0 : Int32)), .val (.int (1 : Int32)), .val (.long y), .second] []))
    have xT6 := own_setJ1 xF3
    refine Gd.go (fun _ w_k => XS.goto X2.here hx rfl (pc0 := 56) (pc' := 31) rfl (hb hby d16_56) (by decide) (by decide) (XS.iinc X2.here hx rfl (hb hby d16_31) rfl (l' := #[.val (.ref a), .val (.int (0 : Int32)), .val (.int (3 : Int32)), .val (.int ((0 : Int32) + (-1 : Int32))), .val (.int (1 : Int32)), .val (.long y), .second]) rfl w_k)) ?_
    show Gd _ _ _ _ (T2.setTop (mkF m 34 #[.val (.ref a), .val (.int (0 : Int32)), .val (.int (3 : Int32)), .val (.int ((0 : Int32) + (-1 : Int32))), .val (.int (1 : Int32)), .val (.long y), .second] []))
    rw [show ((0 : Int32) + (-1 : Int32)) = (-1 : Int32) from by decide]
    show Gd _ _ _ _ (T2.setTop (mkF m 34 #[.val (.ref a), .val (.int (0 : Int32)), .val (.int (3 : Int32)), .val (.int (-1 : Int32)), .val (.int (1 : Int32)), .val (.long y), .second] []))
    refine Gd.go (fun _ w_k => XS.iloadN X2.here hx rfl (hb hby d16_34) rfl (XS.iloadN X2.here hx rfl (hb hby d16_35) rfl (XS.icmpYes X2.here hx rfl (pc0 := 36) (pc' := 59) rfl (hb hby d16_36) rfl (tlt (by decide)).1 (by decide) (by decide) w_k))) ?_
    show Gd _ _ _ _ (T2.setTop (mkF m 59 #[.val (.ref a), .val (.int (0 : Int32)), .val (.int (3 : Int32)), .val (.int (-1 : Int32)), .val (.int (1 : Int32)), .val (.long y), .second] []))
    refine Gd.go (fun _ w_k => XS.aloadN X2.here hx rfl (hb hby d16_59) rfl rfl (XS.iloadN X2.here hx rfl (hb hby d16_60) rfl (XS.iconst X2.here hx rfl (hb hby d16_61) (XS.iadd X2.here hx rfl (hb hby d16_62) rfl w_k)))) ?_
    show Gd _ _ _ _ (T2.setTop (mkF m 63 #[.val (.ref a), .val (.int (0 : Int32)), .val (.int (3 : Int32)), .val (.int (-1 : Int32)), .val (.int (1 : Int32)), .val (.long y), .second] [(.int ((-1 : Int32) + (1 : Int32))), (.ref a)]))
    rw [show ((-1 : Int32) + (1 : Int32)) = (0 : Int32) from by decide]
    show Gd _ _ _ _ (T2.setTop (mkF m 63 #[.val (.ref a), .val (.int (0 : Int32)), .val (.int (3 : Int32)), .val (.int (-1 : Int32)), .val (.int (1 : Int32)), .val (.long y), .second] [(.int (0 : Int32)), (.ref a)]))
    refine Gd.go (fun _ w_k => XS.lload X2.here hx rfl (hb hby d16_63) rfl w_k) ?_
    show Gd _ _ _ _ (T2.setTop (mkF m 65 #[.val (.ref a), .val (.int (0 : Int32)), .val (.int (3 : Int32)), .val (.int (-1 : Int32)), .val (.int (1 : Int32)), .val (.long y), .second] [(.long y), (.int (0 : Int32)), (.ref a)]))
    obtain ⟨T7, h7, X7, e7, W7, st7⟩ := own_stJ X2 hx hZ e2 xT6 (j := (0 : Int32)) (by decide) (by decide) (g := (mkF m 65 #[.val (.ref a), .val (.int (0 : Int32)), .val (.int (3 : Int32)), .val (.int (-1 : Int32)), .val (.int (1 : Int32)), .val (.long y), .second] [(.long y), (.int (0 : Int32)), (.ref a)])) rfl rfl (hb hby d16_65)
    refine Gd.go (fun _ w_k => st7 _ w_k) ?_
    have xF8 := xT6.set W7
    have xN9 := Fr.snoc X7 xN4 ga
    have xK10 := Keep.wr xK5 W7 (Or.inl (by simp))
    show Gd _ _ _ _ (T7.setTop (mkF m 66 #[.val (.ref a), .val (.int (0 : Int32)), .val (.int (3 : Int32)), .val (.int (-1 : Int32)), .val (.int (1 : Int32)), .val (.long y), .second] []))
    have xT11 := own_setJ0 xF8
    refine Gd.go (fun _ w_k => XS.goto X7.here hx rfl (pc0 := 66) (pc' := 3) rfl (hb hby d16_66) (by decide) (by decide) (XS.iinc X7.here hx rfl (hb hby d16_3) rfl (l' := #[.val (.ref a), .val (.int (0 : Int32)), .val (.int (3 : Int32)), .val (.int (-1 : Int32)), .val (.int ((1 : Int32) + (1 : Int32))), .val (.long y), .second]) rfl w_k)) ?_
    show Gd _ _ _ _ (T7.setTop (mkF m 6 #[.val (.ref a), .val (.int (0 : Int32)), .val (.int (3 : Int32)), .val (.int (-1 : Int32)), .val (.int ((1 : Int32) + (1 : Int32))), .val (.long y), .second] []))
    rw [show ((1 : Int32) + (1 : Int32)) = (2 : Int32) from by decide]
    show Gd _ _ _ _ (T7.setTop (mkF m 6 #[.val (.ref a), .val (.int (0 : Int32)), .val (.int (3 : Int32)), .val (.int (-1 : Int32)), .val (.int (2 : Int32)), .val (.long y), .second] []))
    refine Gd.go (fun _ w_k => XS.iload X7.here hx rfl (hb hby d16_6) rfl (XS.iloadN X7.here hx rfl (hb hby d16_8) rfl (XS.icmpNo X7.here hx rfl (hb hby d16_9) rfl (tlt (by decide)).2.1 w_k))) ?_
    show Gd _ _ _ _ (T7.setTop (mkF m 12 #[.val (.ref a), .val (.int (0 : Int32)), .val (.int (3 : Int32)), .val (.int (-1 : Int32)), .val (.int (2 : Int32)), .val (.long y), .second] []))
    refine Gd.go (fun _ w_k => XS.aloadN X7.here hx rfl (hb hby d16_12) rfl rfl (XS.iload X7.here hx rfl (hb hby d16_13) rfl (XS.dup X7.here hx rfl (hb hby d16_15) rfl rfl (XS.istoreN X7.here hx rfl (hb hby d16_16) rfl (l' := #[.val (.ref a), .val (.int (0 : Int32)), .val (.int (3 : Int32)), .val (.int (2 : Int32)), .val (.int (2 : Int32)), .val (.long y), .second]) rfl (own_ldJ X7 hx hZ e7 xT11 (j := (2 : Int32)) (by decide) (by decide) (v := (.long z)) rfl (g := (mkF m 17 #[.val (.ref a), .val (.int (0 : Int32)), .val (.int (3 : Int32)), .val (.int (2 : Int32)), .val (.int (2 : Int32)), .val (.long y), .second] [(.int (2 : Int32)), (.ref a)])) rfl rfl (hb hby d16_17) _ (XS.lstore X7.here hx rfl (hb hby d16_18) rfl (l' := #[.val (.ref a), .val (.int (0 : Int32)), .val (.int (3 : Int32)), .val (.int (2 : Int32)), .val (.int (2 : Int32)), .val (.long z), .second]) rfl (XS.lload X7.here hx rfl (hb hby d16_20) rfl (XS.aloadN X7.here hx rfl (hb hby d16_22) rfl rfl (XS.iloadN X7.here hx rfl (hb hby d16_23) rfl (XS.iconst X7.here hx rfl (hb hby d16_24) (XS.isub X7.here hx rfl (hb hby d16_25) rfl w_k))))))))))) ?_
    show Gd _ _ _ _ (T7.setTop (mkF m 26 #[.val (.ref a), .val (.int (0 : Int32)), .val (.int (3 : Int32)), .val (.int (2 : Int32)), .val (.int (2 : Int32)), .val (.long z), .second] [(.int ((2 : Int32) - (1 : Int32))), (.ref a), (.long z)]))
    rw [show ((2 : Int32) - (1 : Int32)) = (1 : Int32) from by decide]
    show Gd _ _ _ _ (T7.setTop (mkF m 26 #[.val (.ref a), .val (.int (0 : Int32)), .val (.int (3 : Int32)), .val (.int (2 : Int32)), .val (.int (2 : Int32)), .val (.long z), .second] [(.int (1 : Int32)), (.ref a), (.long z)]))
    refine Gd.go (fun _ w_k => own_ldJ X7 hx hZ e7 xT11 (j := (1 : Int32)) (by decide) (by decide) (v := (.long x)) rfl (g := (mkF m 26 #[.val (.ref a), .val (.int (0 : Int32)), .val (.int (3 : Int32)), .val (.int (2 : Int32)), .val (.int (2 : Int32)), .val (.long z), .second] [(.int (1 : Int32)), (.ref a), (.long z)])) rfl rfl (hb hby d16_26) _ (XS.lcmp X7.here hx rfl (hb hby d16_27) rfl w_k)) ?_
    show Gd _ _ _ _ (T7.setTop (mkF m 28 #[.val (.ref a), .val (.int (0 : Int32)), .val (.int (3 : Int32)), .val (.int (2 : Int32)), .val (.int (2 : Int32)), .val (.long z), .second] [(.int (lcmpW z x))]))
    by_cases hc12 : z < x
    · refine Gd.go (fun _ w_k => XS.ifNo X7.here hx rfl (hb hby d16_28) rfl ((if0 _ _).trans (tlt ((lw_lt _ _).mpr hc12)).2.1) w_k) ?_
      show Gd _ _ _ _ (T7.setTop (mkF m 31 #[.val (.ref a), .val (.int (0 : Int32)), .val (.int (3 : Int32)), .val (.int (2 : Int32)), .val (.int (2 : Int32)), .val (.long z), .second] []))
      refine Gd.go (fun _ w_k => XS.iinc X7.here hx rfl (hb hby d16_31) rfl (l' := #[.val (.ref a), .val (.int (0 : Int32)), .val (.int (3 : Int32)), .val (.int ((2 : Int32) + (-1 : Int32))), .val (.int (2 : Int32)), .val (.long z), .second]) rfl w_k) ?_
      show Gd _ _ _ _ (T7.setTop (mkF m 34 #[.val (.ref a), .val (.int (0 : Int32)), .val (.int (3 : Int32)), .val (.int ((2 : Int32) + (-1 : Int32))), .val (.int (2 : Int32)), .val (.long z), .second] []))
      rw [show ((2 : Int32) + (-1 : Int32)) = (1 : Int32) from by decide]
      show Gd _ _ _ _ (T7.setTop (mkF m 34 #[.val (.ref a), .val (.int (0 : Int32)), .val (.int (3 : Int32)), .val (.int (1 : Int32)), .val (.int (2 : Int32)), .val (.long z), .second] []))
      refine Gd.go (fun _ w_k => XS.iloadN X7.here hx rfl (hb hby d16_34) rfl (XS.iloadN X7.here hx rfl (hb hby d16_35) rfl (XS.icmpNo X7.here hx rfl (hb hby d16_36) rfl (flt (by decide)).1 w_k))) ?_
      show Gd _ _ _ _ (T7.setTop (mkF m 39 #[.val (.ref a), .val (.int (0 : Int32)), .val (.int (3 : Int32)), .val (.int (1 : Int32)), .val (.int (2 : Int32)), .val (.long z), .second] []))
      refine Gd.go (fun _ w_k => XS.lload X7.here hx rfl (hb hby d16_39) rfl (XS.aloadN X7.here hx rfl (hb hby d16_41) rfl rfl (XS.iloadN X7.here hx rfl (hb hby d16_42) rfl (own_ldJ X7 hx hZ e7 xT11 (j := (1 : Int32)) (by decide) (by decide) (v := (.long x)) rfl (g := (mkF m 43 #[.val (.ref a), .val (.int (0 : Int32)), .val (.int (3 : Int32)), .val (.int (1 : Int32)), .val (.int (2 : Int32)), .val (.long z), .second] [(.int (1 : Int32)), (.ref a), (.long z)])) rfl rfl (hb hby d16_43) _ (XS.lcmp X7.here hx rfl (hb hby d16_44) rfl (XS.ifNo X7.here hx rfl (hb hby d16_45) rfl ((if0 _ _).trans (tlt ((lw_lt _ _).mpr hc12)).2.1) w_k)))))) ?_
      show Gd _ _ _ _ (T7.setTop (mkF m 48 #[.val (.ref a), .val (.int (0 : Int32)), .val (.int (3 : Int32)), .val (.int (1 : Int32)), .val (.int (2 : Int32)), .val (.long z), .second] []))
      refine Gd.go (fun _ w_k => XS.aloadN X7.here hx rfl (hb hby d16_48) rfl rfl (XS.iloadN X7.here hx rfl (hb hby d16_49) rfl (XS.iconst X7.here hx rfl (hb hby d16_50) (XS.iadd X7.here hx rfl (hb hby d16_51) rfl w_k)))) ?_
      show Gd _ _ _ _ (T7.setTop (mkF m 52 #[.val (.ref a), .val (.int (0 : Int32)), .val (.int (3 : Int32)), .val (.int (1 : Int32)), .val (.int (2 : Int32)), .val (.long z), .second] [(.int ((1 : Int32) + (1 : Int32))), (.ref a)]))
      rw [show ((1 : Int32) + (1 : Int32)) = (2 : Int32) from by decide]
      show Gd _ _ _ _ (T7.setTop (mkF m 52 #[.val (.ref a), .val (.int (0 : Int32)), .val (.int (3 : Int32)), .val (.int (1 : Int32)), .val (.int (2 : Int32)), .val (.long z), .second] [(.int (2 : Int32)), (.ref a)]))
      refine Gd.go (fun _ w_k => XS.aloadN X7.here hx rfl (hb hby d16_52) rfl rfl (XS.iloadN X7.here hx rfl (hb hby d16_53) rfl (own_ldJ X7 hx hZ e7 xT11 (j := (1 : Int32)) (by decide) (by decide) (v := (.long x)) rfl (g := (mkF m 54 #[.val (.ref a), .val (.int (0 : Int32)), .val (.int (3 : Int32)), .val (.int (1 : Int32)), .val (.int (2 : Int32)), .val (.long z), .second] [(.int (1 : Int32)), (.ref a), (.int (2 : Int32)), (.ref a)])) rfl rfl (hb hby d16_54) _ w_k))) ?_
      show Gd _ _ _ _ (T7.setTop (mkF m 55 #[.val (.ref a), .val (.int (0 : Int32)), .val (.int (3 : Int32)), .val (.int (1 : Int32)), .val (.int (2 : Int32)), .val (.long z), .second] [(.long x), (.int (2 : Int32)), (.ref a)]))
      obtain ⟨T13, h13, X13, e13, W13, st13⟩ := own_stJ X7 hx hZ e7 xT11 (j := (2 : Int32)) (by decide) (by decide) (g := (mkF m 55 #[.val (.ref a), .val (.int (0 : Int32)), .val (.int (3 : Int32)), .val (.int (1 : Int32)), .val (.int (2 : Int32)), .val (.long z), .second] [(.long x), (.int (2 : Int32)), (.ref a)])) rfl rfl (hb hby d16_55)
      refine Gd.go (fun _ w_k => st13 _ w_k) ?_
      have xF14 := xT11.set W13
      have xN15 := Fr.snoc X13 xN9 ga
      have xK16 := Keep.wr xK10 W13 (Or.inl (by simp))
      show Gd _ _ _ _ (T13.setTop (mkF m 56 #[.val (.ref a), .val (.int (0 : Int32)), .val (.int (3 : Int32)), .val (.int (1 : Int32)), .val (.int (2 : Int32)), .val (.long z), .second] []))
      have xT17 := own_setJ2 xF14
      refine Gd.go (fun _ w_k => XS.goto X13.here hx rfl (pc0 := 56) (pc' := 31) rfl (hb hby d16_56) (by decide) (by decide) (XS.iinc X13.here hx rfl (hb hby d16_31) rfl (l' := #[.val (.ref a), .val (.int (0 : Int32)), .val (.int (3 : Int32)), .val (.int ((1 : Int32) + (-1 : Int32))), .val (.int (2 : Int32)), .val (.long z), .second]) rfl w_k)) ?_
      show Gd _ _ _ _ (T13.setTop (mkF m 34 #[.val (.ref a), .val (.int (0 : Int32)), .val (.int (3 : Int32)), .val (.int ((1 : Int32) + (-1 : Int32))), .val (.int (2 : Int32)), .val (.long z), .second] []))
      rw [show ((1 : Int32) + (-1 : Int32)) = (0 : Int32) from by decide]
      show Gd _ _ _ _ (T13.setTop (mkF m 34 #[.val (.ref a), .val (.int (0 : Int32)), .val (.int (3 : Int32)), .val (.int (0 : Int32)), .val (.int (2 : Int32)), .val (.long z), .second] []))
      refine Gd.go (fun _ w_k => XS.iloadN X13.here hx rfl (hb hby d16_34) rfl (XS.iloadN X13.here hx rfl (hb hby d16_35) rfl (XS.icmpNo X13.here hx rfl (hb hby d16_36) rfl (flt (by decide)).1 w_k))) ?_
      show Gd _ _ _ _ (T13.setTop (mkF m 39 #[.val (.ref a), .val (.int (0 : Int32)), .val (.int (3 : Int32)), .val (.int (0 : Int32)), .val (.int (2 : Int32)), .val (.long z), .second] []))
      refine Gd.go (fun _ w_k => XS.lload X13.here hx rfl (hb hby d16_39) rfl (XS.aloadN X13.here hx rfl (hb hby d16_41) rfl rfl (XS.iloadN X13.here hx rfl (hb hby d16_42) rfl (own_ldJ X13 hx hZ e13 xT17 (j := (0 : Int32)) (by decide) (by decide) (v := (.long y)) rfl (g := (mkF m 43 #[.val (.ref a), .val (.int (0 : Int32)), .val (.int (3 : Int32)), .val (.int (0 : Int32)), .val (.int (2 : Int32)), .val (.long z), .second] [(.int (0 : Int32)), (.ref a), (.long z)])) rfl rfl (hb hby d16_43) _ (XS.lcmp X13.here hx rfl (hb hby d16_44) rfl w_k))))) ?_
      show Gd _ _ _ _ (T13.setTop (mkF m 45 #[.val (.ref a), .val (.int (0 : Int32)), .val (.int (3 : Int32)), .val (.int (0 : Int32)), .val (.int (2 : Int32)), .val (.long z), .second] [(.int (lcmpW z y))]))
      by_cases hc18 : z < y
      · refine Gd.go (fun _ w_k => XS.ifNo X13.here hx rfl (hb hby d16_45) rfl ((if0 _ _).trans (tlt ((lw_lt _ _).mpr hc18)).2.1) w_k) ?_
        show Gd _ _ _ _ (T13.setTop (mkF m 48 #[.val (.ref a), .val (.int (0 : Int32)), .val (.int (3 : Int32)), .val (.int (0 : Int32)), .val (.int (2 : Int32)), .val (.long z), .second] []))
        refine Gd.go (fun _ w_k => XS.aloadN X13.here hx rfl (hb hby d16_48) rfl rfl (XS.iloadN X13.here hx rfl (hb hby d16_49) rfl (XS.iconst X13.here hx rfl (hb hby d16_50) (XS.iadd X13.here hx rfl (hb hby d16_51) rfl w_k)))) ?_
        show Gd _ _ _ _ (T13.setTop (mkF m 52 #[.val (.ref a), .val (.int (0 : Int32)), .val (.int (3 : Int32)), .val (.int (0 : Int32)), .val (.int (2 : Int32)), .val (.long z), .second] [(.int ((0 : Int32) + (1 : Int32))), (.ref a)]))
        rw [show ((0 : Int32) + (1 : Int32)) = (1 : Int32) from by decide]
        show Gd _ _ _ _ (T13.setTop (mkF m 52 #[.val (.ref a), .val (.int (0 : Int32)), .val (.int (3 : Int32)), .val (.int (0 : Int32)), .val (.int (2 : Int32)), .val (.long z), .second] [(.int (1 : Int32)), (.ref a)]))
        refine Gd.go (fun _ w_k => XS.aloadN X13.here hx rfl (hb hby d16_52) rfl rfl (XS.iloadN X13.here hx rfl (hb hby d16_53) rfl (own_ldJ X13 hx hZ e13 xT17 (j := (0 : Int32)) (by decide) (by decide) (v := (.long y)) rfl (g := (mkF m 54 #[.val (.ref a), .val (.int (0 : Int32)), .val (.int (3 : Int32)), .val (.int (0 : Int32)), .val (.int (2 : Int32)), .val (.long z), .second] [(.int (0 : Int32)), (.ref a), (.int (1 : Int32)), (.ref a)])) rfl rfl (hb hby d16_54) _ w_k))) ?_
        show Gd _ _ _ _ (T13.setTop (mkF m 55 #[.val (.ref a), .val (.int (0 : Int32)), .val (.int (3 : Int32)), .val (.int (0 : Int32)), .val (.int (2 : Int32)), .val (.long z), .second] [(.long y), (.int (1 : Int32)), (.ref a)]))
        obtain ⟨T19, h19, X19, e19, W19, st19⟩ := own_stJ X13 hx hZ e13 xT17 (j := (1 : Int32)) (by decide) (by decide) (g := (mkF m 55 #[.val (.ref a), .val (.int (0 : Int32)), .val (.int (3 : Int32)), .val (.int (0 : Int32)), .val (.int (2 : Int32)), .val (.long z), .second] [(.long y), (.int (1 : Int32)), (.ref a)])) rfl rfl (hb hby d16_55)
        refine Gd.go (fun _ w_k => st19 _ w_k) ?_
        have xF20 := xT17.set W19
        have xN21 := Fr.snoc X19 xN15 ga
        have xK22 := Keep.wr xK16 W19 (Or.inl (by simp))
        show Gd _ _ _ _ (T19.setTop (mkF m 56 #[.val (.ref a), .val (.int (0 : Int32)), .val (.int (3 : Int32)), .val (.int (0 : Int32)), .val (.int (2 : Int32)), .val (.long z), .second] []))
        have xT23 := own_setJ1 xF20
        refine Gd.go (fun _ w_k => XS.goto X19.here hx rfl (pc0 := 56) (pc' := 31) rfl (hb hby d16_56) (by decide) (by decide) (XS.iinc X19.here hx rfl (hb hby d16_31) rfl (l' := #[.val (.ref a), .val (.int (0 : Int32)), .val (.int (3 : Int32)), .val (.int ((0 : Int32) + (-1 : Int32))), .val (.int (2 : Int32)), .val (.long z), .second]) rfl w_k)) ?_
        show Gd _ _ _ _ (T19.setTop (mkF m 34 #[.val (.ref a), .val (.int (0 : Int32)), .val (.int (3 : Int32)), .val (.int ((0 : Int32) + (-1 : Int32))), .val (.int (2 : Int32)), .val (.long z), .second] []))
        rw [show ((0 : Int32) + (-1 : Int32)) = (-1 : Int32) from by decide]
        show Gd _ _ _ _ (T19.setTop (mkF m 34 #[.val (.ref a), .val (.int (0 : Int32)), .val (.int (3 : Int32)), .val (.int (-1 : Int32)), .val (.int (2 : Int32)), .val (.long z), .second] []))
        refine Gd.go (fun _ w_k => XS.iloadN X19.here hx rfl (hb hby d16_34) rfl (XS.iloadN X19.here hx rfl (hb hby d16_35) rfl (XS.icmpYes X19.here hx rfl (pc0 := 36) (pc' := 59) rfl (hb hby d16_36) rfl (tlt (by decide)).1 (by decide) (by decide) w_k))) ?_
        show Gd _ _ _ _ (T19.setTop (mkF m 59 #[.val (.ref a), .val (.int (0 : Int32)), .val (.int (3 : Int32)), .val (.int (-1 : Int32)), .val (.int (2 : Int32)), .val (.long z), .second] []))
        refine Gd.go (fun _ w_k => XS.aloadN X19.here hx rfl (hb hby d16_59) rfl rfl (XS.iloadN X19.here hx rfl (hb hby d16_60) rfl (XS.iconst X19.here hx rfl (hb hby d16_61) (XS.iadd X19.here hx rfl (hb hby d16_62) rfl w_k)))) ?_
        show Gd _ _ _ _ (T19.setTop (mkF m 63 #[.val (.ref a), .val (.int (0 : Int32)), .val (.int (3 : Int32)), .val (.int (-1 : Int32)), .val (.int (2 : Int32)), .val (.long z), .second] [(.int ((-1 : Int32) + (1 : Int32))), (.ref a)]))
        rw [show ((-1 : Int32) + (1 : Int32)) = (0 : Int32) from by decide]
        show Gd _ _ _ _ (T19.setTop (mkF m 63 #[.val (.ref a), .val (.int (0 : Int32)), .val (.int (3 : Int32)), .val (.int (-1 : Int32)), .val (.int (2 : Int32)), .val (.long z), .second] [(.int (0 : Int32)), (.ref a)]))
        refine Gd.go (fun _ w_k => XS.lload X19.here hx rfl (hb hby d16_63) rfl w_k) ?_
        show Gd _ _ _ _ (T19.setTop (mkF m 65 #[.val (.ref a), .val (.int (0 : Int32)), .val (.int (3 : Int32)), .val (.int (-1 : Int32)), .val (.int (2 : Int32)), .val (.long z), .second] [(.long z), (.int (0 : Int32)), (.ref a)]))
        obtain ⟨T24, h24, X24, e24, W24, st24⟩ := own_stJ X19 hx hZ e19 xT23 (j := (0 : Int32)) (by decide) (by decide) (g := (mkF m 65 #[.val (.ref a), .val (.int (0 : Int32)), .val (.int (3 : Int32)), .val (.int (-1 : Int32)), .val (.int (2 : Int32)), .val (.long z), .second] [(.long z), (.int (0 : Int32)), (.ref a)])) rfl rfl (hb hby d16_65)
        refine Gd.go (fun _ w_k => st24 _ w_k) ?_
        have xF25 := xT23.set W24
        have xN26 := Fr.snoc X24 xN21 ga
        have xK27 := Keep.wr xK22 W24 (Or.inl (by simp))
        show Gd _ _ _ _ (T24.setTop (mkF m 66 #[.val (.ref a), .val (.int (0 : Int32)), .val (.int (3 : Int32)), .val (.int (-1 : Int32)), .val (.int (2 : Int32)), .val (.long z), .second] []))
        have xT28 := own_setJ0 xF25
        refine Gd.go (fun _ w_k => XS.goto X24.here hx rfl (pc0 := 66) (pc' := 3) rfl (hb hby d16_66) (by decide) (by decide) (XS.iinc X24.here hx rfl (hb hby d16_3) rfl (l' := #[.val (.ref a), .val (.int (0 : Int32)), .val (.int (3 : Int32)), .val (.int (-1 : Int32)), .val (.int ((2 : Int32) + (1 : Int32))), .val (.long z), .second]) rfl w_k)) ?_
        show Gd _ _ _ _ (T24.setTop (mkF m 6 #[.val (.ref a), .val (.int (0 : Int32)), .val (.int (3 : Int32)), .val (.int (-1 : Int32)), .val (.int ((2 : Int32) + (1 : Int32))), .val (.long z), .second] []))
        rw [show ((2 : Int32) + (1 : Int32)) = (3 : Int32) from by decide]
        show Gd _ _ _ _ (T24.setTop (mkF m 6 #[.val (.ref a), .val (.int (0 : Int32)), .val (.int (3 : Int32)), .val (.int (-1 : Int32)), .val (.int (3 : Int32)), .val (.long z), .second] []))
        refine Gd.go (fun _ w_k => XS.iload X24.here hx rfl (hb hby d16_6) rfl (XS.iloadN X24.here hx rfl (hb hby d16_8) rfl (XS.icmpYes X24.here hx rfl (pc0 := 9) (pc' := 69) rfl (hb hby d16_9) rfl (flt (by decide)).2.1 (by decide) (by decide) w_k))) ?_
        show Gd _ _ _ _ (T24.setTop (mkF m 69 #[.val (.ref a), .val (.int (0 : Int32)), .val (.int (3 : Int32)), .val (.int (-1 : Int32)), .val (.int (3 : Int32)), .val (.long z), .second] []))
        refine own_retV X24 hx hret hlk (hb hby d16_69) ?_ (by decide) (by decide)
        rw [e24]
        have hq := fun (u v : Int64) => Int64.lt_iff_toInt_lt (x := u) (y := v)
        have hh0 := hc1
        rw [hq] at hh0
        have hh1 := hc12
        rw [hq] at hh1
        have hh2 := hc18
        rw [hq] at hh2
        exact ⟨rfl, xK27, ⟨z, y, x, xT28, ⟨by rw [hq]; omega, by rw [hq]; omega⟩, Or.inr (Or.inr (Or.inr (Or.inr (Or.inr (⟨rfl, rfl, rfl⟩)))))⟩, xN26⟩
      · refine Gd.go (fun _ w_k => XS.ifYes X13.here hx rfl (pc0 := 45) (pc' := 59) rfl (hb hby d16_45) rfl ((if0 _ _).trans (flt (fun q => hc18 ((lw_lt _ _).mp q))).2.1) (by decide) (by decide) w_k) ?_
        show Gd _ _ _ _ (T13.setTop (mkF m 59 #[.val (.ref a), .val (.int (0 : Int32)), .val (.int (3 : Int32)), .val (.int (0 : Int32)), .val (.int (2 : Int32)), .val (.long z), .second] []))
        refine Gd.go (fun _ w_k => XS.aloadN X13.here hx rfl (hb hby d16_59) rfl rfl (XS.iloadN X13.here hx rfl (hb hby d16_60) rfl (XS.iconst X13.here hx rfl (hb hby d16_61) (XS.iadd X13.here hx rfl (hb hby d16_62) rfl w_k)))) ?_
        show Gd _ _ _ _ (T13.setTop (mkF m 63 #[.val (.ref a), .val (.int (0 : Int32)), .val (.int (3 : Int32)), .val (.int (0 : Int32)), .val (.int (2 : Int32)), .val (.long z), .second] [(.int ((0 : Int32) + (1 : Int32))), (.ref a)]))
        rw [show ((0 : Int32) + (1 : Int32)) = (1 : Int32) from by decide]
        show Gd _ _ _ _ (T13.setTop (mkF m 63 #[.val (.ref a), .val (.int (0 : Int32)), .val (.int (3 : Int32)), .val (.int (0 : Int32)), .val (.int (2 : Int32)), .val (.long z), .second] [(.int (1 : Int32)), (.ref a)]))
        refine Gd.go (fun _ w_k => XS.lload X13.here hx rfl (hb hby d16_63) rfl w_k) ?_
        show Gd _ _ _ _ (T13.setTop (mkF m 65 #[.val (.ref a), .val (.int (0 : Int32)), .val (.int (3 : Int32)), .val (.int (0 : Int32)), .val (.int (2 : Int32)), .val (.long z), .second] [(.long z), (.int (1 : Int32)), (.ref a)]))
        obtain ⟨T29, h29, X29, e29, W29, st29⟩ := own_stJ X13 hx hZ e13 xT17 (j := (1 : Int32)) (by decide) (by decide) (g := (mkF m 65 #[.val (.ref a), .val (.int (0 : Int32)), .val (.int (3 : Int32)), .val (.int (0 : Int32)), .val (.int (2 : Int32)), .val (.long z), .second] [(.long z), (.int (1 : Int32)), (.ref a)])) rfl rfl (hb hby d16_65)
        refine Gd.go (fun _ w_k => st29 _ w_k) ?_
        have xF30 := xT17.set W29
        have xN31 := Fr.snoc X29 xN15 ga
        have xK32 := Keep.wr xK16 W29 (Or.inl (by simp))
        show Gd _ _ _ _ (T29.setTop (mkF m 66 #[.val (.ref a), .val (.int (0 : Int32)), .val (.int (3 : Int32)), .val (.int (0 : Int32)), .val (.int (2 : Int32)), .val (.long z), .second] []))
        have xT33 := own_setJ1 xF30
        refine Gd.go (fun _ w_k => XS.goto X29.here hx rfl (pc0 := 66) (pc' := 3) rfl (hb hby d16_66) (by decide) (by decide) (XS.iinc X29.here hx rfl (hb hby d16_3) rfl (l' := #[.val (.ref a), .val (.int (0 : Int32)), .val (.int (3 : Int32)), .val (.int (0 : Int32)), .val (.int ((2 : Int32) + (1 : Int32))), .val (.long z), .second]) rfl w_k)) ?_
        show Gd _ _ _ _ (T29.setTop (mkF m 6 #[.val (.ref a), .val (.int (0 : Int32)), .val (.int (3 : Int32)), .val (.int (0 : Int32)), .val (.int ((2 : Int32) + (1 : Int32))), .val (.long z), .second] []))
        rw [show ((2 : Int32) + (1 : Int32)) = (3 : Int32) from by decide]
        show Gd _ _ _ _ (T29.setTop (mkF m 6 #[.val (.ref a), .val (.int (0 : Int32)), .val (.int (3 : Int32)), .val (.int (0 : Int32)), .val (.int (3 : Int32)), .val (.long z), .second] []))
        refine Gd.go (fun _ w_k => XS.iload X29.here hx rfl (hb hby d16_6) rfl (XS.iloadN X29.here hx rfl (hb hby d16_8) rfl (XS.icmpYes X29.here hx rfl (pc0 := 9) (pc' := 69) rfl (hb hby d16_9) rfl (flt (by decide)).2.1 (by decide) (by decide) w_k))) ?_
        show Gd _ _ _ _ (T29.setTop (mkF m 69 #[.val (.ref a), .val (.int (0 : Int32)), .val (.int (3 : Int32)), .val (.int (0 : Int32)), .val (.int (3 : Int32)), .val (.long z), .second] []))
        refine own_retV X29 hx hret hlk (hb hby d16_69) ?_ (by decide) (by decide)
        rw [e29]
        have hq := fun (u v : Int64) => Int64.lt_iff_toInt_lt (x := u) (y := v)
        have hh0 := hc1
        rw [hq] at hh0
        have hh1 := hc12
        rw [hq] at hh1
        have hh2 := hc18
        rw [hq] at hh2
        exact ⟨rfl, xK32, ⟨y, z, x, xT33, ⟨by rw [hq]; omega, by rw [hq]; omega⟩, Or.inr (Or.inr (Or.inr (Or.inl ⟨rfl, rfl, rfl⟩)))⟩, xN31⟩
    · refine Gd.go (fun _ w_k => XS.ifYes X7.here hx rfl (pc0 := 28) (pc' := 66) rfl (hb hby d16_28) rfl ((if0 _ _).trans (flt (fun q => hc12 ((lw_lt _ _).mp q))).2.1) (by decide) (by decide) w_k) ?_
      show Gd _ _ _ _ (T7.setTop (mkF m 66 #[.val (.ref a), .val (.int (0 : Int32)), .val (.int (3 : Int32)), .val (.int (2 : Int32)), .val (.int (2 : Int32)), .val (.long z), .second] []))
      refine Gd.go (fun _ w_k => XS.goto X7.here hx rfl (pc0 := 66) (pc' := 3) rfl (hb hby d16_66) (by decide) (by decide) (XS.iinc X7.here hx rfl (hb hby d16_3) rfl (l' := #[.val (.ref a), .val (.int (0 : Int32)), .val (.int (3 : Int32)), .val (.int (2 : Int32)), .val (.int ((2 : Int32) + (1 : Int32))), .val (.long z), .second]) rfl w_k)) ?_
      show Gd _ _ _ _ (T7.setTop (mkF m 6 #[.val (.ref a), .val (.int (0 : Int32)), .val (.int (3 : Int32)), .val (.int (2 : Int32)), .val (.int ((2 : Int32) + (1 : Int32))), .val (.long z), .second] []))
      rw [show ((2 : Int32) + (1 : Int32)) = (3 : Int32) from by decide]
      show Gd _ _ _ _ (T7.setTop (mkF m 6 #[.val (.ref a), .val (.int (0 : Int32)), .val (.int (3 : Int32)), .val (.int (2 : Int32)), .val (.int (3 : Int32)), .val (.long z), .second] []))
      refine Gd.go (fun _ w_k => XS.iload X7.here hx rfl (hb hby d16_6) rfl (XS.iloadN X7.here hx rfl (hb hby d16_8) rfl (XS.icmpYes X7.here hx rfl (pc0 := 9) (pc' := 69) rfl (hb hby d16_9) rfl (flt (by decide)).2.1 (by decide) (by decide) w_k))) ?_
      show Gd _ _ _ _ (T7.setTop (mkF m 69 #[.val (.ref a), .val (.int (0 : Int32)), .val (.int (3 : Int32)), .val (.int (2 : Int32)), .val (.int (3 : Int32)), .val (.long z), .second] []))
      refine own_retV X7 hx hret hlk (hb hby d16_69) ?_ (by decide) (by decide)
      rw [e7]
      have hq := fun (u v : Int64) => Int64.lt_iff_toInt_lt (x := u) (y := v)
      have hh0 := hc1
      rw [hq] at hh0
      have hh1 := hc12
      rw [hq] at hh1
      exact ⟨rfl, xK10, ⟨y, x, z, xT11, ⟨by rw [hq]; omega, by rw [hq]; omega⟩, Or.inr (Or.inr (Or.inl ⟨rfl, rfl, rfl⟩))⟩, xN9⟩
  · refine Gd.go (fun _ w_k => XS.ifYes X0.here hx rfl (pc0 := 28) (pc' := 66) rfl (hb hby d16_28) rfl ((if0 _ _).trans (flt (fun q => hc1 ((lw_lt _ _).mp q))).2.1) (by decide) (by decide) w_k) ?_
    show Gd _ _ _ _ (s₁.setTop (mkF m 66 #[.val (.ref a), .val (.int (0 : Int32)), .val (.int (3 : Int32)), .val (.int (1 : Int32)), .val (.int (1 : Int32)), .val (.long y), .second] []))
    refine Gd.go (fun _ w_k => XS.goto X0.here hx rfl (pc0 := 66) (pc' := 3) rfl (hb hby d16_66) (by decide) (by decide) (XS.iinc X0.here hx rfl (hb hby d16_3) rfl (l' := #[.val (.ref a), .val (.int (0 : Int32)), .val (.int (3 : Int32)), .val (.int (1 : Int32)), .val (.int ((1 : Int32) + (1 : Int32))), .val (.long y), .second]) rfl w_k)) ?_
    show Gd _ _ _ _ (s₁.setTop (mkF m 6 #[.val (.ref a), .val (.int (0 : Int32)), .val (.int (3 : Int32)), .val (.int (1 : Int32)), .val (.int ((1 : Int32) + (1 : Int32))), .val (.long y), .second] []))
    rw [show ((1 : Int32) + (1 : Int32)) = (2 : Int32) from by decide]
    show Gd _ _ _ _ (s₁.setTop (mkF m 6 #[.val (.ref a), .val (.int (0 : Int32)), .val (.int (3 : Int32)), .val (.int (1 : Int32)), .val (.int (2 : Int32)), .val (.long y), .second] []))
    refine Gd.go (fun _ w_k => XS.iload X0.here hx rfl (hb hby d16_6) rfl (XS.iloadN X0.here hx rfl (hb hby d16_8) rfl (XS.icmpNo X0.here hx rfl (hb hby d16_9) rfl (tlt (by decide)).2.1 w_k))) ?_
    show Gd _ _ _ _ (s₁.setTop (mkF m 12 #[.val (.ref a), .val (.int (0 : Int32)), .val (.int (3 : Int32)), .val (.int (1 : Int32)), .val (.int (2 : Int32)), .val (.long y), .second] []))
    refine Gd.go (fun _ w_k => XS.aloadN X0.here hx rfl (hb hby d16_12) rfl rfl (XS.iload X0.here hx rfl (hb hby d16_13) rfl (XS.dup X0.here hx rfl (hb hby d16_15) rfl rfl (XS.istoreN X0.here hx rfl (hb hby d16_16) rfl (l' := #[.val (.ref a), .val (.int (0 : Int32)), .val (.int (3 : Int32)), .val (.int (2 : Int32)), .val (.int (2 : Int32)), .val (.long y), .second]) rfl (own_ldJ X0 hx hZ e0 A0 (j := (2 : Int32)) (by decide) (by decide) (v := (.long z)) rfl (g := (mkF m 17 #[.val (.ref a), .val (.int (0 : Int32)), .val (.int (3 : Int32)), .val (.int (2 : Int32)), .val (.int (2 : Int32)), .val (.long y), .second] [(.int (2 : Int32)), (.ref a)])) rfl rfl (hb hby d16_17) _ (XS.lstore X0.here hx rfl (hb hby d16_18) rfl (l' := #[.val (.ref a), .val (.int (0 : Int32)), .val (.int (3 : Int32)), .val (.int (2 : Int32)), .val (.int (2 : Int32)), .val (.long z), .second]) rfl (XS.lload X0.here hx rfl (hb hby d16_20) rfl (XS.aloadN X0.here hx rfl (hb hby d16_22) rfl rfl (XS.iloadN X0.here hx rfl (hb hby d16_23) rfl (XS.iconst X0.here hx rfl (hb hby d16_24) (XS.isub X0.here hx rfl (hb hby d16_25) rfl w_k))))))))))) ?_
    show Gd _ _ _ _ (s₁.setTop (mkF m 26 #[.val (.ref a), .val (.int (0 : Int32)), .val (.int (3 : Int32)), .val (.int (2 : Int32)), .val (.int (2 : Int32)), .val (.long z), .second] [(.int ((2 : Int32) - (1 : Int32))), (.ref a), (.long z)]))
    rw [show ((2 : Int32) - (1 : Int32)) = (1 : Int32) from by decide]
    show Gd _ _ _ _ (s₁.setTop (mkF m 26 #[.val (.ref a), .val (.int (0 : Int32)), .val (.int (3 : Int32)), .val (.int (2 : Int32)), .val (.int (2 : Int32)), .val (.long z), .second] [(.int (1 : Int32)), (.ref a), (.long z)]))
    refine Gd.go (fun _ w_k => own_ldJ X0 hx hZ e0 A0 (j := (1 : Int32)) (by decide) (by decide) (v := (.long y)) rfl (g := (mkF m 26 #[.val (.ref a), .val (.int (0 : Int32)), .val (.int (3 : Int32)), .val (.int (2 : Int32)), .val (.int (2 : Int32)), .val (.long z), .second] [(.int (1 : Int32)), (.ref a), (.long z)])) rfl rfl (hb hby d16_26) _ (XS.lcmp X0.here hx rfl (hb hby d16_27) rfl w_k)) ?_
    show Gd _ _ _ _ (s₁.setTop (mkF m 28 #[.val (.ref a), .val (.int (0 : Int32)), .val (.int (3 : Int32)), .val (.int (2 : Int32)), .val (.int (2 : Int32)), .val (.long z), .second] [(.int (lcmpW z y))]))
    by_cases hc34 : z < y
    · refine Gd.go (fun _ w_k => XS.ifNo X0.here hx rfl (hb hby d16_28) rfl ((if0 _ _).trans (tlt ((lw_lt _ _).mpr hc34)).2.1) w_k) ?_
      show Gd _ _ _ _ (s₁.setTop (mkF m 31 #[.val (.ref a), .val (.int (0 : Int32)), .val (.int (3 : Int32)), .val (.int (2 : Int32)), .val (.int (2 : Int32)), .val (.long z), .second] []))
      refine Gd.go (fun _ w_k => XS.iinc X0.here hx rfl (hb hby d16_31) rfl (l' := #[.val (.ref a), .val (.int (0 : Int32)), .val (.int (3 : Int32)), .val (.int ((2 : Int32) + (-1 : Int32))), .val (.int (2 : Int32)), .val (.long z), .second]) rfl w_k) ?_
      show Gd _ _ _ _ (s₁.setTop (mkF m 34 #[.val (.ref a), .val (.int (0 : Int32)), .val (.int (3 : Int32)), .val (.int ((2 : Int32) + (-1 : Int32))), .val (.int (2 : Int32)), .val (.long z), .second] []))
      rw [show ((2 : Int32) + (-1 : Int32)) = (1 : Int32) from by decide]
      show Gd _ _ _ _ (s₁.setTop (mkF m 34 #[.val (.ref a), .val (.int (0 : Int32)), .val (.int (3 : Int32)), .val (.int (1 : Int32)), .val (.int (2 : Int32)), .val (.long z), .second] []))
      refine Gd.go (fun _ w_k => XS.iloadN X0.here hx rfl (hb hby d16_34) rfl (XS.iloadN X0.here hx rfl (hb hby d16_35) rfl (XS.icmpNo X0.here hx rfl (hb hby d16_36) rfl (flt (by decide)).1 w_k))) ?_
      show Gd _ _ _ _ (s₁.setTop (mkF m 39 #[.val (.ref a), .val (.int (0 : Int32)), .val (.int (3 : Int32)), .val (.int (1 : Int32)), .val (.int (2 : Int32)), .val (.long z), .second] []))
      refine Gd.go (fun _ w_k => XS.lload X0.here hx rfl (hb hby d16_39) rfl (XS.aloadN X0.here hx rfl (hb hby d16_41) rfl rfl (XS.iloadN X0.here hx rfl (hb hby d16_42) rfl (own_ldJ X0 hx hZ e0 A0 (j := (1 : Int32)) (by decide) (by decide) (v := (.long y)) rfl (g := (mkF m 43 #[.val (.ref a), .val (.int (0 : Int32)), .val (.int (3 : Int32)), .val (.int (1 : Int32)), .val (.int (2 : Int32)), .val (.long z), .second] [(.int (1 : Int32)), (.ref a), (.long z)])) rfl rfl (hb hby d16_43) _ (XS.lcmp X0.here hx rfl (hb hby d16_44) rfl (XS.ifNo X0.here hx rfl (hb hby d16_45) rfl ((if0 _ _).trans (tlt ((lw_lt _ _).mpr hc34)).2.1) w_k)))))) ?_
      show Gd _ _ _ _ (s₁.setTop (mkF m 48 #[.val (.ref a), .val (.int (0 : Int32)), .val (.int (3 : Int32)), .val (.int (1 : Int32)), .val (.int (2 : Int32)), .val (.long z), .second] []))
      refine Gd.go (fun _ w_k => XS.aloadN X0.here hx rfl (hb hby d16_48) rfl rfl (XS.iloadN X0.here hx rfl (hb hby d16_49) rfl (XS.iconst X0.here hx rfl (hb hby d16_50) (XS.iadd X0.here hx rfl (hb hby d16_51) rfl w_k)))) ?_
      show Gd _ _ _ _ (s₁.setTop (mkF m 52 #[.val (.ref a), .val (.int (0 : Int32)), .val (.int (3 : Int32)), .val (.int (1 : Int32)), .val (.int (2 : Int32)), .val (.long z), .second] [(.int ((1 : Int32) + (1 : Int32))), (.ref a)]))
      rw [show ((1 : Int32) + (1 : Int32)) = (2 : Int32) from by decide]
      show Gd _ _ _ _ (s₁.setTop (mkF m 52 #[.val (.ref a), .val (.int (0 : Int32)), .val (.int (3 : Int32)), .val (.int (1 : Int32)), .val (.int (2 : Int32)), .val (.long z), .second] [(.int (2 : Int32)), (.ref a)]))
      refine Gd.go (fun _ w_k => XS.aloadN X0.here hx rfl (hb hby d16_52) rfl rfl (XS.iloadN X0.here hx rfl (hb hby d16_53) rfl (own_ldJ X0 hx hZ e0 A0 (j := (1 : Int32)) (by decide) (by decide) (v := (.long y)) rfl (g := (mkF m 54 #[.val (.ref a), .val (.int (0 : Int32)), .val (.int (3 : Int32)), .val (.int (1 : Int32)), .val (.int (2 : Int32)), .val (.long z), .second] [(.int (1 : Int32)), (.ref a), (.int (2 : Int32)), (.ref a)])) rfl rfl (hb hby d16_54) _ w_k))) ?_
      show Gd _ _ _ _ (s₁.setTop (mkF m 55 #[.val (.ref a), .val (.int (0 : Int32)), .val (.int (3 : Int32)), .val (.int (1 : Int32)), .val (.int (2 : Int32)), .val (.long z), .second] [(.long y), (.int (2 : Int32)), (.ref a)]))
      obtain ⟨T35, h35, X35, e35, W35, st35⟩ := own_stJ X0 hx hZ e0 A0 (j := (2 : Int32)) (by decide) (by decide) (g := (mkF m 55 #[.val (.ref a), .val (.int (0 : Int32)), .val (.int (3 : Int32)), .val (.int (1 : Int32)), .val (.int (2 : Int32)), .val (.long z), .second] [(.long y), (.int (2 : Int32)), (.ref a)])) rfl rfl (hb hby d16_55)
      refine Gd.go (fun _ w_k => st35 _ w_k) ?_
      have xF36 := A0.set W35
      have xN37 := Fr.snoc X35 N0 ga
      have xK38 := Keep.wr K0 W35 (Or.inl (by simp))
      show Gd _ _ _ _ (T35.setTop (mkF m 56 #[.val (.ref a), .val (.int (0 : Int32)), .val (.int (3 : Int32)), .val (.int (1 : Int32)), .val (.int (2 : Int32)), .val (.long z), .second] []))
      have xT39 := own_setJ2 xF36
      refine Gd.go (fun _ w_k => XS.goto X35.here hx rfl (pc0 := 56) (pc' := 31) rfl (hb hby d16_56) (by decide) (by decide) (XS.iinc X35.here hx rfl (hb hby d16_31) rfl (l' := #[.val (.ref a), .val (.int (0 : Int32)), .val (.int (3 : Int32)), .val (.int ((1 : Int32) + (-1 : Int32))), .val (.int (2 : Int32)), .val (.long z), .second]) rfl w_k)) ?_
      show Gd _ _ _ _ (T35.setTop (mkF m 34 #[.val (.ref a), .val (.int (0 : Int32)), .val (.int (3 : Int32)), .val (.int ((1 : Int32) + (-1 : Int32))), .val (.int (2 : Int32)), .val (.long z), .second] []))
      rw [show ((1 : Int32) + (-1 : Int32)) = (0 : Int32) from by decide]
      show Gd _ _ _ _ (T35.setTop (mkF m 34 #[.val (.ref a), .val (.int (0 : Int32)), .val (.int (3 : Int32)), .val (.int (0 : Int32)), .val (.int (2 : Int32)), .val (.long z), .second] []))
      refine Gd.go (fun _ w_k => XS.iloadN X35.here hx rfl (hb hby d16_34) rfl (XS.iloadN X35.here hx rfl (hb hby d16_35) rfl (XS.icmpNo X35.here hx rfl (hb hby d16_36) rfl (flt (by decide)).1 w_k))) ?_
      show Gd _ _ _ _ (T35.setTop (mkF m 39 #[.val (.ref a), .val (.int (0 : Int32)), .val (.int (3 : Int32)), .val (.int (0 : Int32)), .val (.int (2 : Int32)), .val (.long z), .second] []))
      refine Gd.go (fun _ w_k => XS.lload X35.here hx rfl (hb hby d16_39) rfl (XS.aloadN X35.here hx rfl (hb hby d16_41) rfl rfl (XS.iloadN X35.here hx rfl (hb hby d16_42) rfl (own_ldJ X35 hx hZ e35 xT39 (j := (0 : Int32)) (by decide) (by decide) (v := (.long x)) rfl (g := (mkF m 43 #[.val (.ref a), .val (.int (0 : Int32)), .val (.int (3 : Int32)), .val (.int (0 : Int32)), .val (.int (2 : Int32)), .val (.long z), .second] [(.int (0 : Int32)), (.ref a), (.long z)])) rfl rfl (hb hby d16_43) _ (XS.lcmp X35.here hx rfl (hb hby d16_44) rfl w_k))))) ?_
      show Gd _ _ _ _ (T35.setTop (mkF m 45 #[.val (.ref a), .val (.int (0 : Int32)), .val (.int (3 : Int32)), .val (.int (0 : Int32)), .val (.int (2 : Int32)), .val (.long z), .second] [(.int (lcmpW z x))]))
      by_cases hc40 : z < x
      · refine Gd.go (fun _ w_k => XS.ifNo X35.here hx rfl (hb hby d16_45) rfl ((if0 _ _).trans (tlt ((lw_lt _ _).mpr hc40)).2.1) w_k) ?_
        show Gd _ _ _ _ (T35.setTop (mkF m 48 #[.val (.ref a), .val (.int (0 : Int32)), .val (.int (3 : Int32)), .val (.int (0 : Int32)), .val (.int (2 : Int32)), .val (.long z), .second] []))
        refine Gd.go (fun _ w_k => XS.aloadN X35.here hx rfl (hb hby d16_48) rfl rfl (XS.iloadN X35.here hx rfl (hb hby d16_49) rfl (XS.iconst X35.here hx rfl (hb hby d16_50) (XS.iadd X35.here hx rfl (hb hby d16_51) rfl w_k)))) ?_
        show Gd _ _ _ _ (T35.setTop (mkF m 52 #[.val (.ref a), .val (.int (0 : Int32)), .val (.int (3 : Int32)), .val (.int (0 : Int32)), .val (.int (2 : Int32)), .val (.long z), .second] [(.int ((0 : Int32) + (1 : Int32))), (.ref a)]))
        rw [show ((0 : Int32) + (1 : Int32)) = (1 : Int32) from by decide]
        show Gd _ _ _ _ (T35.setTop (mkF m 52 #[.val (.ref a), .val (.int (0 : Int32)), .val (.int (3 : Int32)), .val (.int (0 : Int32)), .val (.int (2 : Int32)), .val (.long z), .second] [(.int (1 : Int32)), (.ref a)]))
        refine Gd.go (fun _ w_k => XS.aloadN X35.here hx rfl (hb hby d16_52) rfl rfl (XS.iloadN X35.here hx rfl (hb hby d16_53) rfl (own_ldJ X35 hx hZ e35 xT39 (j := (0 : Int32)) (by decide) (by decide) (v := (.long x)) rfl (g := (mkF m 54 #[.val (.ref a), .val (.int (0 : Int32)), .val (.int (3 : Int32)), .val (.int (0 : Int32)), .val (.int (2 : Int32)), .val (.long z), .second] [(.int (0 : Int32)), (.ref a), (.int (1 : Int32)), (.ref a)])) rfl rfl (hb hby d16_54) _ w_k))) ?_
        show Gd _ _ _ _ (T35.setTop (mkF m 55 #[.val (.ref a), .val (.int (0 : Int32)), .val (.int (3 : Int32)), .val (.int (0 : Int32)), .val (.int (2 : Int32)), .val (.long z), .second] [(.long x), (.int (1 : Int32)), (.ref a)]))
        obtain ⟨T41, h41, X41, e41, W41, st41⟩ := own_stJ X35 hx hZ e35 xT39 (j := (1 : Int32)) (by decide) (by decide) (g := (mkF m 55 #[.val (.ref a), .val (.int (0 : Int32)), .val (.int (3 : Int32)), .val (.int (0 : Int32)), .val (.int (2 : Int32)), .val (.long z), .second] [(.long x), (.int (1 : Int32)), (.ref a)])) rfl rfl (hb hby d16_55)
        refine Gd.go (fun _ w_k => st41 _ w_k) ?_
        have xF42 := xT39.set W41
        have xN43 := Fr.snoc X41 xN37 ga
        have xK44 := Keep.wr xK38 W41 (Or.inl (by simp))
        show Gd _ _ _ _ (T41.setTop (mkF m 56 #[.val (.ref a), .val (.int (0 : Int32)), .val (.int (3 : Int32)), .val (.int (0 : Int32)), .val (.int (2 : Int32)), .val (.long z), .second] []))
        have xT45 := own_setJ1 xF42
        refine Gd.go (fun _ w_k => XS.goto X41.here hx rfl (pc0 := 56) (pc' := 31) rfl (hb hby d16_56) (by decide) (by decide) (XS.iinc X41.here hx rfl (hb hby d16_31) rfl (l' := #[.val (.ref a), .val (.int (0 : Int32)), .val (.int (3 : Int32)), .val (.int ((0 : Int32) + (-1 : Int32))), .val (.int (2 : Int32)), .val (.long z), .second]) rfl w_k)) ?_
        show Gd _ _ _ _ (T41.setTop (mkF m 34 #[.val (.ref a), .val (.int (0 : Int32)), .val (.int (3 : Int32)), .val (.int ((0 : Int32) + (-1 : Int32))), .val (.int (2 : Int32)), .val (.long z), .second] []))
        rw [show ((0 : Int32) + (-1 : Int32)) = (-1 : Int32) from by decide]
        show Gd _ _ _ _ (T41.setTop (mkF m 34 #[.val (.ref a), .val (.int (0 : Int32)), .val (.int (3 : Int32)), .val (.int (-1 : Int32)), .val (.int (2 : Int32)), .val (.long z), .second] []))
        refine Gd.go (fun _ w_k => XS.iloadN X41.here hx rfl (hb hby d16_34) rfl (XS.iloadN X41.here hx rfl (hb hby d16_35) rfl (XS.icmpYes X41.here hx rfl (pc0 := 36) (pc' := 59) rfl (hb hby d16_36) rfl (tlt (by decide)).1 (by decide) (by decide) w_k))) ?_
        show Gd _ _ _ _ (T41.setTop (mkF m 59 #[.val (.ref a), .val (.int (0 : Int32)), .val (.int (3 : Int32)), .val (.int (-1 : Int32)), .val (.int (2 : Int32)), .val (.long z), .second] []))
        refine Gd.go (fun _ w_k => XS.aloadN X41.here hx rfl (hb hby d16_59) rfl rfl (XS.iloadN X41.here hx rfl (hb hby d16_60) rfl (XS.iconst X41.here hx rfl (hb hby d16_61) (XS.iadd X41.here hx rfl (hb hby d16_62) rfl w_k)))) ?_
        show Gd _ _ _ _ (T41.setTop (mkF m 63 #[.val (.ref a), .val (.int (0 : Int32)), .val (.int (3 : Int32)), .val (.int (-1 : Int32)), .val (.int (2 : Int32)), .val (.long z), .second] [(.int ((-1 : Int32) + (1 : Int32))), (.ref a)]))
        rw [show ((-1 : Int32) + (1 : Int32)) = (0 : Int32) from by decide]
        show Gd _ _ _ _ (T41.setTop (mkF m 63 #[.val (.ref a), .val (.int (0 : Int32)), .val (.int (3 : Int32)), .val (.int (-1 : Int32)), .val (.int (2 : Int32)), .val (.long z), .second] [(.int (0 : Int32)), (.ref a)]))
        refine Gd.go (fun _ w_k => XS.lload X41.here hx rfl (hb hby d16_63) rfl w_k) ?_
        show Gd _ _ _ _ (T41.setTop (mkF m 65 #[.val (.ref a), .val (.int (0 : Int32)), .val (.int (3 : Int32)), .val (.int (-1 : Int32)), .val (.int (2 : Int32)), .val (.long z), .second] [(.long z), (.int (0 : Int32)), (.ref a)]))
        obtain ⟨T46, h46, X46, e46, W46, st46⟩ := own_stJ X41 hx hZ e41 xT45 (j := (0 : Int32)) (by decide) (by decide) (g := (mkF m 65 #[.val (.ref a), .val (.int (0 : Int32)), .val (.int (3 : Int32)), .val (.int (-1 : Int32)), .val (.int (2 : Int32)), .val (.long z), .second] [(.long z), (.int (0 : Int32)), (.ref a)])) rfl rfl (hb hby d16_65)
        refine Gd.go (fun _ w_k => st46 _ w_k) ?_
        have xF47 := xT45.set W46
        have xN48 := Fr.snoc X46 xN43 ga
        have xK49 := Keep.wr xK44 W46 (Or.inl (by simp))
        show Gd _ _ _ _ (T46.setTop (mkF m 66 #[.val (.ref a), .val (.int (0 : Int32)), .val (.int (3 : Int32)), .val (.int (-1 : Int32)), .val (.int (2 : Int32)), .val (.long z), .second] []))
        have xT50 := own_setJ0 xF47
        refine Gd.go (fun _ w_k => XS.goto X46.here hx rfl (pc0 := 66) (pc' := 3) rfl (hb hby d16_66) (by decide) (by decide) (XS.iinc X46.here hx rfl (hb hby d16_3) rfl (l' := #[.val (.ref a), .val (.int (0 : Int32)), .val (.int (3 : Int32)), .val (.int (-1 : Int32)), .val (.int ((2 : Int32) + (1 : Int32))), .val (.long z), .second]) rfl w_k)) ?_
        show Gd _ _ _ _ (T46.setTop (mkF m 6 #[.val (.ref a), .val (.int (0 : Int32)), .val (.int (3 : Int32)), .val (.int (-1 : Int32)), .val (.int ((2 : Int32) + (1 : Int32))), .val (.long z), .second] []))
        rw [show ((2 : Int32) + (1 : Int32)) = (3 : Int32) from by decide]
        show Gd _ _ _ _ (T46.setTop (mkF m 6 #[.val (.ref a), .val (.int (0 : Int32)), .val (.int (3 : Int32)), .val (.int (-1 : Int32)), .val (.int (3 : Int32)), .val (.long z), .second] []))
        refine Gd.go (fun _ w_k => XS.iload X46.here hx rfl (hb hby d16_6) rfl (XS.iloadN X46.here hx rfl (hb hby d16_8) rfl (XS.icmpYes X46.here hx rfl (pc0 := 9) (pc' := 69) rfl (hb hby d16_9) rfl (flt (by decide)).2.1 (by decide) (by decide) w_k))) ?_
        show Gd _ _ _ _ (T46.setTop (mkF m 69 #[.val (.ref a), .val (.int (0 : Int32)), .val (.int (3 : Int32)), .val (.int (-1 : Int32)), .val (.int (3 : Int32)), .val (.long z), .second] []))
        refine own_retV X46 hx hret hlk (hb hby d16_69) ?_ (by decide) (by decide)
        rw [e46]
        have hq := fun (u v : Int64) => Int64.lt_iff_toInt_lt (x := u) (y := v)
        have hh0 := hc1
        rw [hq] at hh0
        have hh1 := hc34
        rw [hq] at hh1
        have hh2 := hc40
        rw [hq] at hh2
        exact ⟨rfl, xK49, ⟨z, x, y, xT50, ⟨by rw [hq]; omega, by rw [hq]; omega⟩, Or.inr (Or.inr (Or.inr (Or.inr (Or.inl ⟨rfl, rfl, rfl⟩))))⟩, xN48⟩
      · refine Gd.go (fun _ w_k => XS.ifYes X35.here hx rfl (pc0 := 45) (pc' := 59) rfl (hb hby d16_45) rfl ((if0 _ _).trans (flt (fun q => hc40 ((lw_lt _ _).mp q))).2.1) (by decide) (by decide) w_k) ?_
        show Gd _ _ _ _ (T35.setTop (mkF m 59 #[.val (.ref a), .val (.int (0 : Int32)), .val (.int (3 : Int32)), .val (.int (0 : Int32)), .val (.int (2 : Int32)), .val (.long z), .second] []))
        refine Gd.go (fun _ w_k => XS.aloadN X35.here hx rfl (hb hby d16_59) rfl rfl (XS.iloadN X35.here hx rfl (hb hby d16_60) rfl (XS.iconst X35.here hx rfl (hb hby d16_61) (XS.iadd X35.here hx rfl (hb hby d16_62) rfl w_k)))) ?_
        show Gd _ _ _ _ (T35.setTop (mkF m 63 #[.val (.ref a), .val (.int (0 : Int32)), .val (.int (3 : Int32)), .val (.int (0 : Int32)), .val (.int (2 : Int32)), .val (.long z), .second] [(.int ((0 : Int32) + (1 : Int32))), (.ref a)]))
        rw [show ((0 : Int32) + (1 : Int32)) = (1 : Int32) from by decide]
        show Gd _ _ _ _ (T35.setTop (mkF m 63 #[.val (.ref a), .val (.int (0 : Int32)), .val (.int (3 : Int32)), .val (.int (0 : Int32)), .val (.int (2 : Int32)), .val (.long z), .second] [(.int (1 : Int32)), (.ref a)]))
        refine Gd.go (fun _ w_k => XS.lload X35.here hx rfl (hb hby d16_63) rfl w_k) ?_
        show Gd _ _ _ _ (T35.setTop (mkF m 65 #[.val (.ref a), .val (.int (0 : Int32)), .val (.int (3 : Int32)), .val (.int (0 : Int32)), .val (.int (2 : Int32)), .val (.long z), .second] [(.long z), (.int (1 : Int32)), (.ref a)]))
        obtain ⟨T51, h51, X51, e51, W51, st51⟩ := own_stJ X35 hx hZ e35 xT39 (j := (1 : Int32)) (by decide) (by decide) (g := (mkF m 65 #[.val (.ref a), .val (.int (0 : Int32)), .val (.int (3 : Int32)), .val (.int (0 : Int32)), .val (.int (2 : Int32)), .val (.long z), .second] [(.long z), (.int (1 : Int32)), (.ref a)])) rfl rfl (hb hby d16_65)
        refine Gd.go (fun _ w_k => st51 _ w_k) ?_
        have xF52 := xT39.set W51
        have xN53 := Fr.snoc X51 xN37 ga
        have xK54 := Keep.wr xK38 W51 (Or.inl (by simp))
        show Gd _ _ _ _ (T51.setTop (mkF m 66 #[.val (.ref a), .val (.int (0 : Int32)), .val (.int (3 : Int32)), .val (.int (0 : Int32)), .val (.int (2 : Int32)), .val (.long z), .second] []))
        have xT55 := own_setJ1 xF52
        refine Gd.go (fun _ w_k => XS.goto X51.here hx rfl (pc0 := 66) (pc' := 3) rfl (hb hby d16_66) (by decide) (by decide) (XS.iinc X51.here hx rfl (hb hby d16_3) rfl (l' := #[.val (.ref a), .val (.int (0 : Int32)), .val (.int (3 : Int32)), .val (.int (0 : Int32)), .val (.int ((2 : Int32) + (1 : Int32))), .val (.long z), .second]) rfl w_k)) ?_
        show Gd _ _ _ _ (T51.setTop (mkF m 6 #[.val (.ref a), .val (.int (0 : Int32)), .val (.int (3 : Int32)), .val (.int (0 : Int32)), .val (.int ((2 : Int32) + (1 : Int32))), .val (.long z), .second] []))
        rw [show ((2 : Int32) + (1 : Int32)) = (3 : Int32) from by decide]
        show Gd _ _ _ _ (T51.setTop (mkF m 6 #[.val (.ref a), .val (.int (0 : Int32)), .val (.int (3 : Int32)), .val (.int (0 : Int32)), .val (.int (3 : Int32)), .val (.long z), .second] []))
        refine Gd.go (fun _ w_k => XS.iload X51.here hx rfl (hb hby d16_6) rfl (XS.iloadN X51.here hx rfl (hb hby d16_8) rfl (XS.icmpYes X51.here hx rfl (pc0 := 9) (pc' := 69) rfl (hb hby d16_9) rfl (flt (by decide)).2.1 (by decide) (by decide) w_k))) ?_
        show Gd _ _ _ _ (T51.setTop (mkF m 69 #[.val (.ref a), .val (.int (0 : Int32)), .val (.int (3 : Int32)), .val (.int (0 : Int32)), .val (.int (3 : Int32)), .val (.long z), .second] []))
        refine own_retV X51 hx hret hlk (hb hby d16_69) ?_ (by decide) (by decide)
        rw [e51]
        have hq := fun (u v : Int64) => Int64.lt_iff_toInt_lt (x := u) (y := v)
        have hh0 := hc1
        rw [hq] at hh0
        have hh1 := hc34
        rw [hq] at hh1
        have hh2 := hc40
        rw [hq] at hh2
        exact ⟨rfl, xK54, ⟨x, z, y, xT55, ⟨by rw [hq]; omega, by rw [hq]; omega⟩, Or.inr (Or.inl ⟨rfl, rfl, rfl⟩)⟩, xN53⟩
    · refine Gd.go (fun _ w_k => XS.ifYes X0.here hx rfl (pc0 := 28) (pc' := 66) rfl (hb hby d16_28) rfl ((if0 _ _).trans (flt (fun q => hc34 ((lw_lt _ _).mp q))).2.1) (by decide) (by decide) w_k) ?_
      show Gd _ _ _ _ (s₁.setTop (mkF m 66 #[.val (.ref a), .val (.int (0 : Int32)), .val (.int (3 : Int32)), .val (.int (2 : Int32)), .val (.int (2 : Int32)), .val (.long z), .second] []))
      refine Gd.go (fun _ w_k => XS.goto X0.here hx rfl (pc0 := 66) (pc' := 3) rfl (hb hby d16_66) (by decide) (by decide) (XS.iinc X0.here hx rfl (hb hby d16_3) rfl (l' := #[.val (.ref a), .val (.int (0 : Int32)), .val (.int (3 : Int32)), .val (.int (2 : Int32)), .val (.int ((2 : Int32) + (1 : Int32))), .val (.long z), .second]) rfl w_k)) ?_
      show Gd _ _ _ _ (s₁.setTop (mkF m 6 #[.val (.ref a), .val (.int (0 : Int32)), .val (.int (3 : Int32)), .val (.int (2 : Int32)), .val (.int ((2 : Int32) + (1 : Int32))), .val (.long z), .second] []))
      rw [show ((2 : Int32) + (1 : Int32)) = (3 : Int32) from by decide]
      show Gd _ _ _ _ (s₁.setTop (mkF m 6 #[.val (.ref a), .val (.int (0 : Int32)), .val (.int (3 : Int32)), .val (.int (2 : Int32)), .val (.int (3 : Int32)), .val (.long z), .second] []))
      refine Gd.go (fun _ w_k => XS.iload X0.here hx rfl (hb hby d16_6) rfl (XS.iloadN X0.here hx rfl (hb hby d16_8) rfl (XS.icmpYes X0.here hx rfl (pc0 := 9) (pc' := 69) rfl (hb hby d16_9) rfl (flt (by decide)).2.1 (by decide) (by decide) w_k))) ?_
      show Gd _ _ _ _ (s₁.setTop (mkF m 69 #[.val (.ref a), .val (.int (0 : Int32)), .val (.int (3 : Int32)), .val (.int (2 : Int32)), .val (.int (3 : Int32)), .val (.long z), .second] []))
      refine own_retV X0 hx hret hlk (hb hby d16_69) ?_ (by decide) (by decide)
      rw [e0]
      have hq := fun (u v : Int64) => Int64.lt_iff_toInt_lt (x := u) (y := v)
      have hh0 := hc1
      rw [hq] at hh0
      have hh1 := hc34
      rw [hq] at hh1
      exact ⟨rfl, K0, ⟨x, y, z, A0, ⟨by rw [hq]; omega, by rw [hq]; omega⟩, Or.inl ⟨rfl, rfl, rfl⟩⟩, N0⟩
theorem own_pn14 : plainFor (⟨"java/util/DualPivotQuicksort", "sort", "(Ljava/util/DualPivotQuicksort$Sorter;[JIII)V"⟩ : MethodName) = true := by first | exact plainFor_of_name (by first | (simp [plainName, overriddenIn, x]; done) | decide +kernel) | decide +kernel
theorem ef_15 (m : MethodId) (q0 : Addr) (q1 : Int32) (q2 : Int32) (q3 : Int32) : entryFrame m #[.null, (.ref q0), (.int q1), (.int q2), (.int q3)] 25 = mkF m 0 #[.val .null, .val (.ref q0), .val (.int q1), .val (.int q2), .val (.int q3), .unset, .unset, .unset, .unset, .unset, .unset, .unset, .unset, .unset, .unset, .unset, .unset, .unset, .unset, .unset, .unset, .unset, .unset, .unset, .unset] [] := by first | (simp [entryFrame, mkF, argsToLocals, Value.category, maxLocals]; done) | rfl
theorem d15_0 : decode jdk_2529_method_13_code 0 = .ok (.iload 4, 2) := by decide +kernel
theorem d15_2 : decode jdk_2529_method_13_code 2 = .ok (.iconst 1, 1) := by decide +kernel
theorem d15_3 : decode jdk_2529_method_13_code 3 = .ok (.isub, 1) := by decide +kernel
theorem d15_4 : decode jdk_2529_method_13_code 4 = .ok (.istore 5, 2) := by decide +kernel
theorem d15_6 : decode jdk_2529_method_13_code 6 = .ok (.iload 4, 2) := by decide +kernel
theorem d15_8 : decode jdk_2529_method_13_code 8 = .ok (.iload_n 3, 1) := by decide +kernel
theorem d15_9 : decode jdk_2529_method_13_code 9 = .ok (.isub, 1) := by decide +kernel
theorem d15_10 : decode jdk_2529_method_13_code 10 = .ok (.istore 6, 2) := by decide +kernel
theorem d15_12 : decode jdk_2529_method_13_code 12 = .ok (.iload 6, 2) := by decide +kernel
theorem d15_14 : decode jdk_2529_method_13_code 14 = .ok (.bipush 65, 2) := by decide +kernel
theorem d15_16 : decode jdk_2529_method_13_code 16 = .ok (.iload_n 2, 1) := by decide +kernel
theorem d15_17 : decode jdk_2529_method_13_code 17 = .ok (.iadd, 1) := by decide +kernel
theorem d15_18 : decode jdk_2529_method_13_code 18 = .ok (.if_icmp .ge 28, 3) := by decide +kernel
theorem d15_21 : decode jdk_2529_method_13_code 21 = .ok (.iload_n 2, 1) := by decide +kernel
theorem d15_22 : decode jdk_2529_method_13_code 22 = .ok (.iconst 1, 1) := by decide +kernel
theorem d15_23 : decode jdk_2529_method_13_code 23 = .ok (.iand, 1) := by decide +kernel
theorem d15_24 : decode jdk_2529_method_13_code 24 = .ok (.ifCond .le 22, 3) := by decide +kernel
theorem d15_46 : decode jdk_2529_method_13_code 46 = .ok (.iload 6, 2) := by decide +kernel
theorem d15_48 : decode jdk_2529_method_13_code 48 = .ok (.bipush 44, 2) := by decide +kernel
theorem d15_50 : decode jdk_2529_method_13_code 50 = .ok (.if_icmp .ge 11, 3) := by decide +kernel
theorem d15_53 : decode jdk_2529_method_13_code 53 = .ok (.aload_n 1, 1) := by decide +kernel
theorem d15_54 : decode jdk_2529_method_13_code 54 = .ok (.iload_n 3, 1) := by decide +kernel
theorem d15_55 : decode jdk_2529_method_13_code 55 = .ok (.iload 4, 2) := by decide +kernel
theorem own_pd3 : parseMethodDescriptor "([JII)V" = some ⟨[(.array .long), .int, .int], none⟩ := by decide +kernel
theorem d15_57 : decode jdk_2529_method_13_code 57 = .ok (.invokestatic 105, 3) := by decide +kernel
theorem d15_60 : decode jdk_2529_method_13_code 60 = .ok (.return_, 1) := by decide +kernel
set_option maxRecDepth 65536 in
set_option maxHeartbeats 40000000 in
theorem own_c15 (l : Launch) (Z : State) (a0 : Array Value) (hw : ∀ d ∈ tables_1, d.before a0 Z = true) (h0 : Heap) (n0 : Nat) (a : Addr) (ga : n0 ≤ a) (x y z : Int64) (A0 : ArF Z h0 a .long 16 (own_J x y z)) :
    Con l Z (⟨"java/util/DualPivotQuicksort", "sort", "(Ljava/util/DualPivotQuicksort$Sorter;[JIII)V"⟩ : MethodName) jdk_2529_method_13_code 25 none [] ({ frames := 1, cells := 0, slots := 0, locals := 18 } : Room) 0 0 #[.null, (.ref a), (.int (0 : Int32)), (.int (0 : Int32)), (.int (3 : Int32))] h0 (fun r h L => r = none ∧ Keep h0 h [a] ∧ (∃ x' y' z', ArF Z h a .long 16 (own_J x' y' z') ∧ own_srt x y z x' y' z') ∧ Fr n0 L) := by
  refine Con.of own_pn14 ?_
  intro pg ev s_ m bl mt cd s₁ hx hby hml hown hnm hret hlk hZ X0 e0
  rw [ef_15]
  show Gd _ _ _ _ (s₁.setTop (mkF m 0 #[.val .null, .val (.ref a), .val (.int (0 : Int32)), .val (.int (0 : Int32)), .val (.int (3 : Int32)), .unset, .unset, .unset, .unset, .unset, .unset, .unset, .unset, .unset, .unset, .unset, .unset, .unset, .unset, .unset, .unset, .unset, .unset, .unset, .unset] []))
  refine Gd.go (fun _ w_k => XS.iload X0.here hx rfl (hb hby d15_0) rfl (XS.iconst X0.here hx rfl (hb hby d15_2) (XS.isub X0.here hx rfl (hb hby d15_3) rfl w_k))) ?_
  show Gd _ _ _ _ (s₁.setTop (mkF m 4 #[.val .null, .val (.ref a), .val (.int (0 : Int32)), .val (.int (0 : Int32)), .val (.int (3 : Int32)), .unset, .unset, .unset, .unset, .unset, .unset, .unset, .unset, .unset, .unset, .unset, .unset, .unset, .unset, .unset, .unset, .unset, .unset, .unset, .unset] [(.int ((3 : Int32) - (1 : Int32)))]))
  rw [show ((3 : Int32) - (1 : Int32)) = (2 : Int32) from by decide]
  show Gd _ _ _ _ (s₁.setTop (mkF m 4 #[.val .null, .val (.ref a), .val (.int (0 : Int32)), .val (.int (0 : Int32)), .val (.int (3 : Int32)), .unset, .unset, .unset, .unset, .unset, .unset, .unset, .unset, .unset, .unset, .unset, .unset, .unset, .unset, .unset, .unset, .unset, .unset, .unset, .unset] [(.int (2 : Int32))]))
  refine Gd.go (fun _ w_k => XS.istore X0.here hx rfl (hb hby d15_4) rfl (l' := #[.val .null, .val (.ref a), .val (.int (0 : Int32)), .val (.int (0 : Int32)), .val (.int (3 : Int32)), .val (.int (2 : Int32)), .unset, .unset, .unset, .unset, .unset, .unset, .unset, .unset, .unset, .unset, .unset, .unset, .unset, .unset, .unset, .unset, .unset, .unset, .unset]) rfl (XS.iload X0.here hx rfl (hb hby d15_6) rfl (XS.iloadN X0.here hx rfl (hb hby d15_8) rfl (XS.isub X0.here hx rfl (hb hby d15_9) rfl w_k)))) ?_
  show Gd _ _ _ _ (s₁.setTop (mkF m 10 #[.val .null, .val (.ref a), .val (.int (0 : Int32)), .val (.int (0 : Int32)), .val (.int (3 : Int32)), .val (.int (2 : Int32)), .unset, .unset, .unset, .unset, .unset, .unset, .unset, .unset, .unset, .unset, .unset, .unset, .unset, .unset, .unset, .unset, .unset, .unset, .unset] [(.int ((3 : Int32) - (0 : Int32)))]))
  rw [show ((3 : Int32) - (0 : Int32)) = (3 : Int32) from by decide]
  show Gd _ _ _ _ (s₁.setTop (mkF m 10 #[.val .null, .val (.ref a), .val (.int (0 : Int32)), .val (.int (0 : Int32)), .val (.int (3 : Int32)), .val (.int (2 : Int32)), .unset, .unset, .unset, .unset, .unset, .unset, .unset, .unset, .unset, .unset, .unset, .unset, .unset, .unset, .unset, .unset, .unset, .unset, .unset] [(.int (3 : Int32))]))
  refine Gd.go (fun _ w_k => XS.istore X0.here hx rfl (hb hby d15_10) rfl (l' := #[.val .null, .val (.ref a), .val (.int (0 : Int32)), .val (.int (0 : Int32)), .val (.int (3 : Int32)), .val (.int (2 : Int32)), .val (.int (3 : Int32)), .unset, .unset, .unset, .unset, .unset, .unset, .unset, .unset, .unset, .unset, .unset, .unset, .unset, .unset, .unset, .unset, .unset, .unset]) rfl (XS.iload X0.here hx rfl (hb hby d15_12) rfl (XS.bipush X0.here hx rfl (hb hby d15_14) (XS.iloadN X0.here hx rfl (hb hby d15_16) rfl (XS.iadd X0.here hx rfl (hb hby d15_17) rfl w_k))))) ?_
  show Gd _ _ _ _ (s₁.setTop (mkF m 18 #[.val .null, .val (.ref a), .val (.int (0 : Int32)), .val (.int (0 : Int32)), .val (.int (3 : Int32)), .val (.int (2 : Int32)), .val (.int (3 : Int32)), .unset, .unset, .unset, .unset, .unset, .unset, .unset, .unset, .unset, .unset, .unset, .unset, .unset, .unset, .unset, .unset, .unset, .unset] [(.int ((65 : Int32) + (0 : Int32))), (.int (3 : Int32))]))
  rw [show ((65 : Int32) + (0 : Int32)) = (65 : Int32) from by decide]
  show Gd _ _ _ _ (s₁.setTop (mkF m 18 #[.val .null, .val (.ref a), .val (.int (0 : Int32)), .val (.int (0 : Int32)), .val (.int (3 : Int32)), .val (.int (2 : Int32)), .val (.int (3 : Int32)), .unset, .unset, .unset, .unset, .unset, .unset, .unset, .unset, .unset, .unset, .unset, .unset, .unset, .unset, .unset, .unset, .unset, .unset] [(.int (65 : Int32)), (.int (3 : Int32))]))
  refine Gd.go (fun _ w_k => XS.icmpNo X0.here hx rfl (hb hby d15_18) rfl (tlt (by decide)).2.1 w_k) ?_
  show Gd _ _ _ _ (s₁.setTop (mkF m 21 #[.val .null, .val (.ref a), .val (.int (0 : Int32)), .val (.int (0 : Int32)), .val (.int (3 : Int32)), .val (.int (2 : Int32)), .val (.int (3 : Int32)), .unset, .unset, .unset, .unset, .unset, .unset, .unset, .unset, .unset, .unset, .unset, .unset, .unset, .unset, .unset, .unset, .unset, .unset] []))
  refine Gd.go (fun _ w_k => XS.iloadN X0.here hx rfl (hb hby d15_21) rfl (XS.iconst X0.here hx rfl (hb hby d15_22) (XS.iand X0.here hx rfl (hb hby d15_23) rfl w_k))) ?_
  show Gd _ _ _ _ (s₁.setTop (mkF m 24 #[.val .null, .val (.ref a), .val (.int (0 : Int32)), .val (.int (0 : Int32)), .val (.int (3 : Int32)), .val (.int (2 : Int32)), .val (.int (3 : Int32)), .unset, .unset, .unset, .unset, .unset, .unset, .unset, .unset, .unset, .unset, .unset, .unset, .unset, .unset, .unset, .unset, .unset, .unset] [(.int ((0 : Int32) &&& (1 : Int32)))]))
  rw [show ((0 : Int32) &&& (1 : Int32)) = (0 : Int32) from by decide]
  show Gd _ _ _ _ (s₁.setTop (mkF m 24 #[.val .null, .val (.ref a), .val (.int (0 : Int32)), .val (.int (0 : Int32)), .val (.int (3 : Int32)), .val (.int (2 : Int32)), .val (.int (3 : Int32)), .unset, .unset, .unset, .unset, .unset, .unset, .unset, .unset, .unset, .unset, .unset, .unset, .unset, .unset, .unset, .unset, .unset, .unset] [(.int (0 : Int32))]))
  refine Gd.go (fun _ w_k => XS.ifYes X0.here hx rfl (pc0 := 24) (pc' := 46) rfl (hb hby d15_24) rfl ((if0 _ _).trans (flt (by decide)).2.2.2) (by decide) (by decide) w_k) ?_
  show Gd _ _ _ _ (s₁.setTop (mkF m 46 #[.val .null, .val (.ref a), .val (.int (0 : Int32)), .val (.int (0 : Int32)), .val (.int (3 : Int32)), .val (.int (2 : Int32)), .val (.int (3 : Int32)), .unset, .unset, .unset, .unset, .unset, .unset, .unset, .unset, .unset, .unset, .unset, .unset, .unset, .unset, .unset, .unset, .unset, .unset] []))
  refine Gd.go (fun _ w_k => XS.iload X0.here hx rfl (hb hby d15_46) rfl (XS.bipush X0.here hx rfl (hb hby d15_48) (XS.icmpNo X0.here hx rfl (hb hby d15_50) rfl (tlt (by decide)).2.1 w_k))) ?_
  show Gd _ _ _ _ (s₁.setTop (mkF m 53 #[.val .null, .val (.ref a), .val (.int (0 : Int32)), .val (.int (0 : Int32)), .val (.int (3 : Int32)), .val (.int (2 : Int32)), .val (.int (3 : Int32)), .unset, .unset, .unset, .unset, .unset, .unset, .unset, .unset, .unset, .unset, .unset, .unset, .unset, .unset, .unset, .unset, .unset, .unset] []))
  refine Gd.go (fun _ w_k => XS.aloadN X0.here hx rfl (hb hby d15_53) rfl rfl (XS.iloadN X0.here hx rfl (hb hby d15_54) rfl (XS.iload X0.here hx rfl (hb hby d15_55) rfl w_k))) ?_
  show Gd _ _ _ _ (s₁.setTop (mkF m 57 #[.val .null, .val (.ref a), .val (.int (0 : Int32)), .val (.int (0 : Int32)), .val (.int (3 : Int32)), .val (.int (2 : Int32)), .val (.int (3 : Int32)), .unset, .unset, .unset, .unset, .unset, .unset, .unset, .unset, .unset, .unset, .unset, .unset, .unset, .unset, .unset, .unset, .unset, .unset] [(.int (3 : Int32)), (.int (0 : Int32)), (.ref a)]))
  obtain ⟨v1, T1, L1, X1, hQ1, st1⟩ := own_callS X0 hx hZ (y := (⟨"java/util/DualPivotQuicksort", "insertionSort", "([JII)V"⟩ : MethodName)) hown (ow hw 103 rfl) (ow hw 104 rfl) (ow hw 98 rfl) (ow hw 105 rfl) (by decide) (W := 0) (own_c16 l Z a0 hw h0 n0 a ga x y z A0) rfl rfl e0 (by decide) (by decide) (g := (mkF m 57 #[.val .null, .val (.ref a), .val (.int (0 : Int32)), .val (.int (0 : Int32)), .val (.int (3 : Int32)), .val (.int (2 : Int32)), .val (.int (3 : Int32)), .unset, .unset, .unset, .unset, .unset, .unset, .unset, .unset, .unset, .unset, .unset, .unset, .unset, .unset, .unset, .unset, .unset, .unset] [(.int (3 : Int32)), (.int (0 : Int32)), (.ref a)])) rfl (by rw [hml]; rfl) (argsL := [(.ref a), (.int (0 : Int32)), (.int (3 : Int32))]) (rest := []) (lenOf own_pd3 rfl) rfl (Nat.le_of_eq rfl) (hb hby d15_57) rfl (by decide) (by decide)
  obtain ⟨rfl, K9, H9, N9⟩ := hQ1
  refine Gd.go (fun _ w_k => st1 _ w_k) ?_
  show Gd _ _ _ _ (T1.setTop (mkF m 60 #[.val .null, .val (.ref a), .val (.int (0 : Int32)), .val (.int (0 : Int32)), .val (.int (3 : Int32)), .val (.int (2 : Int32)), .val (.int (3 : Int32)), .unset, .unset, .unset, .unset, .unset, .unset, .unset, .unset, .unset, .unset, .unset, .unset, .unset, .unset, .unset, .unset, .unset, .unset] []))
  refine own_retV X1 hx hret hlk (hb hby d15_60) ?_ (by decide) (by decide)
  exact ⟨rfl, K9, H9, (List.nil_append (α := Loc) _).symm ▸ N9⟩
theorem own_pn15 : plainFor (⟨"java/util/DualPivotQuicksort", "sort", "([JIII)V"⟩ : MethodName) = true := by first | exact plainFor_of_name (by first | (simp [plainName, overriddenIn, x]; done) | decide +kernel) | decide +kernel
theorem ef_14 (m : MethodId) (q0 : Addr) (q1 : Int32) (q2 : Int32) (q3 : Int32) : entryFrame m #[(.ref q0), (.int q1), (.int q2), (.int q3)] 7 = mkF m 0 #[.val (.ref q0), .val (.int q1), .val (.int q2), .val (.int q3), .unset, .unset, .unset] [] := by first | (simp [entryFrame, mkF, argsToLocals, Value.category, maxLocals]; done) | rfl
theorem d14_0 : decode jdk_2529_method_12_code 0 = .ok (.iload_n 3, 1) := by decide +kernel
theorem d14_1 : decode jdk_2529_method_12_code 1 = .ok (.iload_n 2, 1) := by decide +kernel
theorem d14_2 : decode jdk_2529_method_12_code 2 = .ok (.isub, 1) := by decide +kernel
theorem d14_3 : decode jdk_2529_method_12_code 3 = .ok (.istore 4, 2) := by decide +kernel
theorem d14_5 : decode jdk_2529_method_12_code 5 = .ok (.iload_n 1, 1) := by decide +kernel
theorem d14_6 : decode jdk_2529_method_12_code 6 = .ok (.iconst 1, 1) := by decide +kernel
theorem d14_7 : decode jdk_2529_method_12_code 7 = .ok (.if_icmp .le 61, 3) := by decide +kernel
theorem d14_68 : decode jdk_2529_method_12_code 68 = .ok (.aconst_null, 1) := by decide +kernel
theorem d14_69 : decode jdk_2529_method_12_code 69 = .ok (.aload_n 0, 1) := by decide +kernel
theorem d14_70 : decode jdk_2529_method_12_code 70 = .ok (.iconst 0, 1) := by decide +kernel
theorem d14_71 : decode jdk_2529_method_12_code 71 = .ok (.iload_n 2, 1) := by decide +kernel
theorem d14_72 : decode jdk_2529_method_12_code 72 = .ok (.iload_n 3, 1) := by decide +kernel
theorem own_pd4 : parseMethodDescriptor "(Ljava/util/DualPivotQuicksort$Sorter;[JIII)V" = some ⟨[(.object "java/util/DualPivotQuicksort$Sorter"), (.array .long), .int, .int, .int], none⟩ := by decide +kernel
theorem d14_73 : decode jdk_2529_method_12_code 73 = .ok (.invokestatic 99, 3) := by decide +kernel
theorem d14_76 : decode jdk_2529_method_12_code 76 = .ok (.return_, 1) := by decide +kernel
set_option maxRecDepth 65536 in
set_option maxHeartbeats 40000000 in
theorem own_c14 (l : Launch) (Z : State) (a0 : Array Value) (hw : ∀ d ∈ tables_1, d.before a0 Z = true) (h0 : Heap) (n0 : Nat) (a : Addr) (ga : n0 ≤ a) (x y z : Int64) (A0 : ArF Z h0 a .long 16 (own_J x y z)) :
    Con l Z (⟨"java/util/DualPivotQuicksort", "sort", "([JIII)V"⟩ : MethodName) jdk_2529_method_12_code 7 none [] ({ frames := 2, cells := 0, slots := 0, locals := 54 } : Room) 0 0 #[(.ref a), (.int (0 : Int32)), (.int (0 : Int32)), (.int (3 : Int32))] h0 (fun r h L => r = none ∧ Keep h0 h [a] ∧ (∃ x' y' z', ArF Z h a .long 16 (own_J x' y' z') ∧ own_srt x y z x' y' z') ∧ Fr n0 L) := by
  refine Con.of own_pn15 ?_
  intro pg ev s_ m bl mt cd s₁ hx hby hml hown hnm hret hlk hZ X0 e0
  rw [ef_14]
  show Gd _ _ _ _ (s₁.setTop (mkF m 0 #[.val (.ref a), .val (.int (0 : Int32)), .val (.int (0 : Int32)), .val (.int (3 : Int32)), .unset, .unset, .unset] []))
  refine Gd.go (fun _ w_k => XS.iloadN X0.here hx rfl (hb hby d14_0) rfl (XS.iloadN X0.here hx rfl (hb hby d14_1) rfl (XS.isub X0.here hx rfl (hb hby d14_2) rfl w_k))) ?_
  show Gd _ _ _ _ (s₁.setTop (mkF m 3 #[.val (.ref a), .val (.int (0 : Int32)), .val (.int (0 : Int32)), .val (.int (3 : Int32)), .unset, .unset, .unset] [(.int ((3 : Int32) - (0 : Int32)))]))
  rw [show ((3 : Int32) - (0 : Int32)) = (3 : Int32) from by decide]
  show Gd _ _ _ _ (s₁.setTop (mkF m 3 #[.val (.ref a), .val (.int (0 : Int32)), .val (.int (0 : Int32)), .val (.int (3 : Int32)), .unset, .unset, .unset] [(.int (3 : Int32))]))
  refine Gd.go (fun _ w_k => XS.istore X0.here hx rfl (hb hby d14_3) rfl (l' := #[.val (.ref a), .val (.int (0 : Int32)), .val (.int (0 : Int32)), .val (.int (3 : Int32)), .val (.int (3 : Int32)), .unset, .unset]) rfl (XS.iloadN X0.here hx rfl (hb hby d14_5) rfl (XS.iconst X0.here hx rfl (hb hby d14_6) (XS.icmpYes X0.here hx rfl (pc0 := 7) (pc' := 68) rfl (hb hby d14_7) rfl (flt (by decide)).2.2.2 (by decide) (by decide) w_k)))) ?_
  show Gd _ _ _ _ (s₁.setTop (mkF m 68 #[.val (.ref a), .val (.int (0 : Int32)), .val (.int (0 : Int32)), .val (.int (3 : Int32)), .val (.int (3 : Int32)), .unset, .unset] []))
  refine Gd.go (fun _ w_k => XS.aconstNull X0.here hx rfl (hb hby d14_68) (XS.aloadN X0.here hx rfl (hb hby d14_69) rfl rfl (XS.iconst X0.here hx rfl (hb hby d14_70) (XS.iloadN X0.here hx rfl (hb hby d14_71) rfl (XS.iloadN X0.here hx rfl (hb hby d14_72) rfl w_k))))) ?_
  show Gd _ _ _ _ (s₁.setTop (mkF m 73 #[.val (.ref a), .val (.int (0 : Int32)), .val (.int (0 : Int32)), .val (.int (3 : Int32)), .val (.int (3 : Int32)), .unset, .unset] [(.int (3 : Int32)), (.int (0 : Int32)), (.int (0 : Int32)), (.ref a), .null]))
  obtain ⟨v1, T1, L1, X1, hQ1, st1⟩ := own_callS X0 hx hZ (y := (⟨"java/util/DualPivotQuicksort", "sort", "(Ljava/util/DualPivotQuicksort$Sorter;[JIII)V"⟩ : MethodName)) hown (ow hw 100 rfl) (ow hw 101 rfl) (ow hw 98 rfl) (ow hw 102 rfl) (by decide) (W := 0) (own_c15 l Z a0 hw h0 n0 a ga x y z A0) rfl rfl e0 (by decide) (by decide) (g := (mkF m 73 #[.val (.ref a), .val (.int (0 : Int32)), .val (.int (0 : Int32)), .val (.int (3 : Int32)), .val (.int (3 : Int32)), .unset, .unset] [(.int (3 : Int32)), (.int (0 : Int32)), (.int (0 : Int32)), (.ref a), .null])) rfl (by rw [hml]; rfl) (argsL := [.null, (.ref a), (.int (0 : Int32)), (.int (0 : Int32)), (.int (3 : Int32))]) (rest := []) (lenOf own_pd4 rfl) rfl (Nat.le_of_eq rfl) (hb hby d14_73) rfl (by decide) (by decide)
  obtain ⟨rfl, K9, H9, N9⟩ := hQ1
  refine Gd.go (fun _ w_k => st1 _ w_k) ?_
  show Gd _ _ _ _ (T1.setTop (mkF m 76 #[.val (.ref a), .val (.int (0 : Int32)), .val (.int (0 : Int32)), .val (.int (3 : Int32)), .val (.int (3 : Int32)), .unset, .unset] []))
  refine own_retV X1 hx hret hlk (hb hby d14_76) ?_ (by decide) (by decide)
  exact ⟨rfl, K9, H9, (List.nil_append (α := Loc) _).symm ▸ N9⟩
theorem own_pn16 : plainFor (⟨"java/util/Arrays", "rangeCheck", "(III)V"⟩ : MethodName) = true := by first | exact plainFor_of_name (by first | (simp [plainName, overriddenIn, x]; done) | decide +kernel) | decide +kernel
theorem ef_13 (m : MethodId) (q0 : Int32) (q1 : Int32) (q2 : Int32) : entryFrame m #[(.int q0), (.int q1), (.int q2)] 3 = mkF m 0 #[.val (.int q0), .val (.int q1), .val (.int q2)] [] := by first | (simp [entryFrame, mkF, argsToLocals, Value.category, maxLocals]; done) | rfl
theorem d13_0 : decode jdk_65_method_30_code 0 = .ok (.iload_n 1, 1) := by decide +kernel
theorem d13_1 : decode jdk_65_method_30_code 1 = .ok (.iload_n 2, 1) := by decide +kernel
theorem d13_2 : decode jdk_65_method_30_code 2 = .ok (.if_icmp .le 44, 3) := by decide +kernel
theorem d13_46 : decode jdk_65_method_30_code 46 = .ok (.iload_n 1, 1) := by decide +kernel
theorem d13_47 : decode jdk_65_method_30_code 47 = .ok (.ifCond .ge 12, 3) := by decide +kernel
theorem d13_59 : decode jdk_65_method_30_code 59 = .ok (.iload_n 2, 1) := by decide +kernel
theorem d13_60 : decode jdk_65_method_30_code 60 = .ok (.iload_n 0, 1) := by decide +kernel
theorem d13_61 : decode jdk_65_method_30_code 61 = .ok (.if_icmp .le 12, 3) := by decide +kernel
theorem d13_73 : decode jdk_65_method_30_code 73 = .ok (.return_, 1) := by decide +kernel
set_option maxRecDepth 65536 in
set_option maxHeartbeats 40000000 in
theorem own_c13 (l : Launch) (Z : State) (a0 : Array Value) (hw : ∀ d ∈ tables_1, d.before a0 Z = true) (h0 : Heap) :
    Con l Z (⟨"java/util/Arrays", "rangeCheck", "(III)V"⟩ : MethodName) jdk_65_method_30_code 3 none [] ({ frames := 0, cells := 0, slots := 0, locals := 0 } : Room) 0 0 #[(.int (16 : Int32)), (.int (0 : Int32)), (.int (3 : Int32))] h0 (fun r h L => r = none ∧ h = h0 ∧ L = []) := by
  refine Con.of own_pn16 ?_
  intro pg ev s_ m bl mt cd s₁ hx hby hml hown hnm hret hlk hZ X0 e0
  rw [ef_13]
  show Gd _ _ _ _ (s₁.setTop (mkF m 0 #[.val (.int (16 : Int32)), .val (.int (0 : Int32)), .val (.int (3 : Int32))] []))
  refine Gd.go (fun _ w_k => XS.iloadN X0.here hx rfl (hb hby d13_0) rfl (XS.iloadN X0.here hx rfl (hb hby d13_1) rfl (XS.icmpYes X0.here hx rfl (pc0 := 2) (pc' := 46) rfl (hb hby d13_2) rfl (flt (by decide)).2.2.2 (by decide) (by decide) w_k))) ?_
  show Gd _ _ _ _ (s₁.setTop (mkF m 46 #[.val (.int (16 : Int32)), .val (.int (0 : Int32)), .val (.int (3 : Int32))] []))
  refine Gd.go (fun _ w_k => XS.iloadN X0.here hx rfl (hb hby d13_46) rfl (XS.ifYes X0.here hx rfl (pc0 := 47) (pc' := 59) rfl (hb hby d13_47) rfl ((if0 _ _).trans (flt (by decide)).2.1) (by decide) (by decide) w_k)) ?_
  show Gd _ _ _ _ (s₁.setTop (mkF m 59 #[.val (.int (16 : Int32)), .val (.int (0 : Int32)), .val (.int (3 : Int32))] []))
  refine Gd.go (fun _ w_k => XS.iloadN X0.here hx rfl (hb hby d13_59) rfl (XS.iloadN X0.here hx rfl (hb hby d13_60) rfl (XS.icmpYes X0.here hx rfl (pc0 := 61) (pc' := 73) rfl (hb hby d13_61) rfl (flt (by decide)).2.2.2 (by decide) (by decide) w_k))) ?_
  show Gd _ _ _ _ (s₁.setTop (mkF m 73 #[.val (.int (16 : Int32)), .val (.int (0 : Int32)), .val (.int (3 : Int32))] []))
  refine own_retV X0 hx hret hlk (hb hby d13_73) ?_ (by decide) (by decide)
  exact ⟨rfl, e0, rfl⟩
theorem own_pn17 : plainFor (⟨"java/util/Arrays", "sort", "([JII)V"⟩ : MethodName) = true := by first | exact plainFor_of_name (by first | (simp [plainName, overriddenIn, x]; done) | decide +kernel) | decide +kernel
theorem ef_12 (m : MethodId) (q0 : Addr) (q1 : Int32) (q2 : Int32) : entryFrame m #[(.ref q0), (.int q1), (.int q2)] 3 = mkF m 0 #[.val (.ref q0), .val (.int q1), .val (.int q2)] [] := by first | (simp [entryFrame, mkF, argsToLocals, Value.category, maxLocals]; done) | rfl
theorem d12_0 : decode jdk_65_method_5_code 0 = .ok (.aload_n 0, 1) := by decide +kernel
theorem d12_1 : decode jdk_65_method_5_code 1 = .ok (.arraylength, 1) := by decide +kernel
theorem d12_2 : decode jdk_65_method_5_code 2 = .ok (.iload_n 1, 1) := by decide +kernel
theorem d12_3 : decode jdk_65_method_5_code 3 = .ok (.iload_n 2, 1) := by decide +kernel
theorem own_pd5 : parseMethodDescriptor "(III)V" = some ⟨[.int, .int, .int], none⟩ := by decide +kernel
theorem d12_4 : decode jdk_65_method_5_code 4 = .ok (.invokestatic 13, 3) := by decide +kernel
theorem d12_7 : decode jdk_65_method_5_code 7 = .ok (.aload_n 0, 1) := by decide +kernel
theorem d12_8 : decode jdk_65_method_5_code 8 = .ok (.iconst 0, 1) := by decide +kernel
theorem d12_9 : decode jdk_65_method_5_code 9 = .ok (.iload_n 1, 1) := by decide +kernel
theorem d12_10 : decode jdk_65_method_5_code 10 = .ok (.iload_n 2, 1) := by decide +kernel
theorem own_pd6 : parseMethodDescriptor "([JIII)V" = some ⟨[(.array .long), .int, .int, .int], none⟩ := by decide +kernel
theorem d12_11 : decode jdk_65_method_5_code 11 = .ok (.invokestatic 19, 3) := by decide +kernel
theorem d12_14 : decode jdk_65_method_5_code 14 = .ok (.return_, 1) := by decide +kernel
set_option maxRecDepth 65536 in
set_option maxHeartbeats 40000000 in
theorem own_c12 (l : Launch) (Z : State) (a0 : Array Value) (hw : ∀ d ∈ tables_1, d.before a0 Z = true) (h0 : Heap) (n0 : Nat) (a : Addr) (ga : n0 ≤ a) (x y z : Int64) (A0 : ArF Z h0 a .long 16 (own_J x y z)) :
    Con l Z (⟨"java/util/Arrays", "sort", "([JII)V"⟩ : MethodName) jdk_65_method_5_code 3 none [] ({ frames := 3, cells := 0, slots := 0, locals := 72 } : Room) 0 0 #[(.ref a), (.int (0 : Int32)), (.int (3 : Int32))] h0 (fun r h L => r = none ∧ Keep h0 h [a] ∧ (∃ x' y' z', ArF Z h a .long 16 (own_J x' y' z') ∧ own_srt x y z x' y' z') ∧ Fr n0 L) := by
  refine Con.of own_pn17 ?_
  intro pg ev s_ m bl mt cd s₁ hx hby hml hown hnm hret hlk hZ X0 e0
  rw [ef_12]
  show Gd _ _ _ _ (s₁.setTop (mkF m 0 #[.val (.ref a), .val (.int (0 : Int32)), .val (.int (3 : Int32))] []))
  refine Gd.go (fun _ w_k => XS.aloadN X0.here hx rfl (hb hby d12_0) rfl rfl (own_len X0 hx hZ e0 A0 (z := (16 : Int32)) rfl (g := (mkF m 1 #[.val (.ref a), .val (.int (0 : Int32)), .val (.int (3 : Int32))] [(.ref a)])) rfl rfl (hb hby d12_1) _ (XS.iloadN X0.here hx rfl (hb hby d12_2) rfl (XS.iloadN X0.here hx rfl (hb hby d12_3) rfl w_k)))) ?_
  show Gd _ _ _ _ (s₁.setTop (mkF m 4 #[.val (.ref a), .val (.int (0 : Int32)), .val (.int (3 : Int32))] [(.int (3 : Int32)), (.int (0 : Int32)), (.int (16 : Int32))]))
  obtain ⟨T1, X1, e1, st1⟩ := own_callSP X0 hx hZ (y := (⟨"java/util/Arrays", "rangeCheck", "(III)V"⟩ : MethodName)) hown (ow hw 93 rfl) (ow hw 94 rfl) (ow hw 91 rfl) (ow hw 95 rfl) (by decide) (W := 0) (own_c13 l Z a0 hw h0) rfl rfl e0 (by decide) (by decide) (g := (mkF m 4 #[.val (.ref a), .val (.int (0 : Int32)), .val (.int (3 : Int32))] [(.int (3 : Int32)), (.int (0 : Int32)), (.int (16 : Int32))])) rfl (by rw [hml]; rfl) (argsL := [(.int (16 : Int32)), (.int (0 : Int32)), (.int (3 : Int32))]) (rest := []) (lenOf own_pd5 rfl) rfl (Nat.le_of_eq rfl) (hb hby d12_4) rfl
  refine Gd.go (fun _ w_k => st1 _ (XS.aloadN X1.here hx rfl (hb hby d12_7) rfl rfl (XS.iconst X1.here hx rfl (hb hby d12_8) (XS.iloadN X1.here hx rfl (hb hby d12_9) rfl (XS.iloadN X1.here hx rfl (hb hby d12_10) rfl w_k))))) ?_
  show Gd _ _ _ _ (T1.setTop (mkF m 11 #[.val (.ref a), .val (.int (0 : Int32)), .val (.int (3 : Int32))] [(.int (3 : Int32)), (.int (0 : Int32)), (.int (0 : Int32)), (.ref a)]))
  obtain ⟨v2, T2, L2, X2, hQ2, st2⟩ := own_callS X1 hx hZ (y := (⟨"java/util/DualPivotQuicksort", "sort", "([JIII)V"⟩ : MethodName)) hown (ow hw 96 rfl) (ow hw 97 rfl) (ow hw 98 rfl) (ow hw 99 rfl) (by decide) (W := 0) (own_c14 l Z a0 hw h0 n0 a ga x y z A0) rfl rfl e1 (by decide) (by decide) (g := (mkF m 11 #[.val (.ref a), .val (.int (0 : Int32)), .val (.int (3 : Int32))] [(.int (3 : Int32)), (.int (0 : Int32)), (.int (0 : Int32)), (.ref a)])) rfl (by rw [hml]; rfl) (argsL := [(.ref a), (.int (0 : Int32)), (.int (0 : Int32)), (.int (3 : Int32))]) (rest := []) (lenOf own_pd6 rfl) rfl (Nat.le_of_eq rfl) (hb hby d12_11) rfl (by decide) (by decide)
  obtain ⟨rfl, K9, H9, N9⟩ := hQ2
  refine Gd.go (fun _ w_k => st2 _ w_k) ?_
  show Gd _ _ _ _ (T2.setTop (mkF m 14 #[.val (.ref a), .val (.int (0 : Int32)), .val (.int (3 : Int32))] []))
  refine own_retV X2 hx hret hlk (hb hby d12_14) ?_ (by decide) (by decide)
  exact ⟨rfl, K9, H9, (List.nil_append (α := Loc) _).symm ▸ N9⟩
theorem own_pn18 : plainFor (⟨"com/example/nearfield/nearfield/job/RankedReads", "keepFresh", "()V"⟩ : MethodName) = true := by first | exact plainFor_of_name (by first | (simp [plainName, overriddenIn, x]; done) | decide +kernel) | decide +kernel
theorem ef_11 (m : MethodId) (q0 : Addr) : entryFrame m #[(.ref q0)] 1 = mkF m 0 #[.val (.ref q0)] [] := by first | (simp [entryFrame, mkF, argsToLocals, Value.category, maxLocals]; done) | rfl
theorem d11_0 : decode prog_98_method_8_code 0 = .ok (.aload_n 0, 1) := by decide +kernel
theorem d11_1 : decode prog_98_method_8_code 1 = .ok (.getfield 19, 3) := by decide +kernel
theorem d11_4 : decode prog_98_method_8_code 4 = .ok (.getfield 116, 3) := by decide +kernel
theorem d11_7 : decode prog_98_method_8_code 7 = .ok (.aload_n 0, 1) := by decide +kernel
theorem d11_8 : decode prog_98_method_8_code 8 = .ok (.getfield 84, 3) := by decide +kernel
theorem d11_11 : decode prog_98_method_8_code 11 = .ok (.iaload, 1) := by decide +kernel
theorem d11_12 : decode prog_98_method_8_code 12 = .ok (.aload_n 0, 1) := by decide +kernel
theorem d11_13 : decode prog_98_method_8_code 13 = .ok (.getfield 53, 3) := by decide +kernel
theorem d11_16 : decode prog_98_method_8_code 16 = .ok (.aload_n 0, 1) := by decide +kernel
theorem d11_17 : decode prog_98_method_8_code 17 = .ok (.getfield 19, 3) := by decide +kernel
theorem d11_20 : decode prog_98_method_8_code 20 = .ok (.getfield 90, 3) := by decide +kernel
theorem d11_23 : decode prog_98_method_8_code 23 = .ok (.aload_n 0, 1) := by decide +kernel
theorem d11_24 : decode prog_98_method_8_code 24 = .ok (.getfield 84, 3) := by decide +kernel
theorem d11_27 : decode prog_98_method_8_code 27 = .ok (.laload, 1) := by decide +kernel
theorem d11_28 : decode prog_98_method_8_code 28 = .ok (.aload_n 0, 1) := by decide +kernel
theorem d11_29 : decode prog_98_method_8_code 29 = .ok (.getfield 43, 3) := by decide +kernel
theorem d11_32 : decode prog_98_method_8_code 32 = .ok (.land, 1) := by decide +kernel
theorem d11_33 : decode prog_98_method_8_code 33 = .ok (.l2i, 1) := by decide +kernel
theorem d11_34 : decode prog_98_method_8_code 34 = .ok (.iaload, 1) := by decide +kernel
theorem d11_35 : decode prog_98_method_8_code 35 = .ok (.if_icmp .ne 34, 3) := by decide +kernel
theorem d11_38 : decode prog_98_method_8_code 38 = .ok (.aload_n 0, 1) := by decide +kernel
theorem d11_39 : decode prog_98_method_8_code 39 = .ok (.getfield 19, 3) := by decide +kernel
theorem d11_42 : decode prog_98_method_8_code 42 = .ok (.getfield 90, 3) := by decide +kernel
theorem d11_45 : decode prog_98_method_8_code 45 = .ok (.aload_n 0, 1) := by decide +kernel
theorem d11_46 : decode prog_98_method_8_code 46 = .ok (.dup, 1) := by decide +kernel
theorem d11_47 : decode prog_98_method_8_code 47 = .ok (.getfield 81, 3) := by decide +kernel
theorem d11_50 : decode prog_98_method_8_code 50 = .ok (.dup_x1, 1) := by decide +kernel
theorem d11_51 : decode prog_98_method_8_code 51 = .ok (.iconst 1, 1) := by decide +kernel
theorem d11_52 : decode prog_98_method_8_code 52 = .ok (.iadd, 1) := by decide +kernel
theorem d11_53 : decode prog_98_method_8_code 53 = .ok (.putfield 81, 3) := by decide +kernel
theorem own_w_fk {Z : State} {a0 : Array Value} (hw : ∀ d ∈ tables_1, d.before a0 Z = true) {h h' : Heap} {n0 : Nat} {ad : Nat → Addr} {v_rn v_mg : Addr} {v_ra v_fa v_fk v_an v_at v_c1 v_c2 v_c3 v_i10 v_i11 v_i12 v_i20 v_i21 v_i22 v_i30 v_i31 v_i32 v_k0 v_k1 v_k2 : Int32} {v_nx v_l10 v_l11 v_l12 v_l20 v_l21 v_l22 v_l30 v_l31 v_l32 : Int64} {v : Int32} (H : own_H Z h n0 ad v_rn v_mg v_ra v_fa v_fk v_an v_at v_nx v_c1 v_c2 v_c3 v_l10 v_l11 v_l12 v_l20 v_l21 v_l22 v_l30 v_l31 v_l32 v_i10 v_i11 v_i12 v_i20 v_i21 v_i22 v_i30 v_i31 v_i32 v_k0 v_k1 v_k2) (W : Wr h h' (ad 0) (Jvm.RoadKit.slotOf Z "com/example/nearfield/nearfield/job/RankedReads" "freshKept" "I") (.int v)) : own_H Z h' n0 ad v_rn v_mg v_ra v_fa v v_an v_at v_nx v_c1 v_c2 v_c3 v_l10 v_l11 v_l12 v_l20 v_l21 v_l22 v_l30 v_l31 v_l32 v_i10 v_i11 v_i12 v_i20 v_i21 v_i22 v_i30 v_i31 v_i32 v_k0 v_k1 v_k2 := by
  obtain ⟨hinj, hge, E0, E1, E2, E3, r_run, r_merged, r_fresh, r_serverBits, r_freeBits, r_serverMask, r_mostFree, r_mostSpend, r_runAt, r_freshAt, r_freshKept, r_ranking, r_rankedAnew, r_at, r_next, u1_rank, u1_ranking, u1_count, u2_rank, u2_ranking, u2_count, u3_rank, u3_ranking, u3_count, a_l1, a_l2, a_l3, a_i1, a_i2, a_i3, a_k⟩ := H
  exact ⟨hinj, hge, E0.wr W, E1.wr W, E2.wr W, E3.wr W, r_run.other W (Or.inr (slot_ne (Or.inl (ow hw 25 rfl)) (Or.inl (ow hw 80 rfl)) (by decide) (t := (.object "com/example/nearfield/nearfield/job/RankedReads$Run")) (t' := .int) (by decide) (by decide))), r_merged.other W (Or.inr (slot_ne (Or.inl (ow hw 27 rfl)) (Or.inl (ow hw 80 rfl)) (by decide) (t := (.object "com/example/nearfield/nearfield/job/RankedReads$Run")) (t' := .int) (by decide) (by decide))), r_fresh.other W (Or.inr (slot_ne (Or.inr (ow hw 29 rfl)) (Or.inl (ow hw 80 rfl)) (by decide) (t := (.object "com/example/nearfield/nearfield/job/RankedReads$Run")) (t' := .int) (by decide) (by decide))), r_serverBits.other W (Or.inr (slot_ne (Or.inr (ow hw 40 rfl)) (Or.inl (ow hw 80 rfl)) (by decide) (t := .int) (t' := .int) (by decide) (by decide))), r_freeBits.other W (Or.inr (slot_ne (Or.inr (ow hw 42 rfl)) (Or.inl (ow hw 80 rfl)) (by decide) (t := .int) (t' := .int) (by decide) (by decide))), r_serverMask.other W (Or.inr (slot_ne (Or.inr (ow hw 44 rfl)) (Or.inl (ow hw 80 rfl)) (by decide) (t := .long) (t' := .int) (by decide) (by decide))), r_mostFree.other W (Or.inr (slot_ne (Or.inr (ow hw 46 rfl)) (Or.inl (ow hw 80 rfl)) (by decide) (t := .long) (t' := .int) (by decide) (by decide))), r_mostSpend.other W (Or.inr (slot_ne (Or.inr (ow hw 48 rfl)) (Or.inl (ow hw 80 rfl)) (by decide) (t := .long) (t' := .int) (by decide) (by decide))), r_runAt.other W (Or.inr (slot_ne (Or.inl (ow hw 117 rfl)) (Or.inl (ow hw 80 rfl)) (by decide) (t := .int) (t' := .int) (by decide) (by decide))), r_freshAt.other W (Or.inr (slot_ne (Or.inl (ow hw 82 rfl)) (Or.inl (ow hw 80 rfl)) (by decide) (t := .int) (t' := .int) (by decide) (by decide))), r_freshKept.same W, r_ranking.other W (Or.inr (slot_ne (Or.inr (ow hw 50 rfl)) (Or.inl (ow hw 80 rfl)) (by decide) (t := (.array .int)) (t' := .int) (by decide) (by decide))), r_rankedAnew.other W (Or.inr (slot_ne (Or.inl (ow hw 123 rfl)) (Or.inl (ow hw 80 rfl)) (by decide) (t := .boolean) (t' := .int) (by decide) (by decide))), r_at.other W (Or.inr (slot_ne (Or.inl (ow hw 125 rfl)) (Or.inl (ow hw 80 rfl)) (by decide) (t := .int) (t' := .int) (by decide) (by decide))), r_next.other W (Or.inr (slot_ne (Or.inl (ow hw 132 rfl)) (Or.inl (ow hw 80 rfl)) (by decide) (t := .long) (t' := .int) (by decide) (by decide))), u1_rank.other W (Or.inl (on hinj 1 0 rfl)), u1_ranking.other W (Or.inl (on hinj 1 0 rfl)), u1_count.other W (Or.inl (on hinj 1 0 rfl)), u2_rank.other W (Or.inl (on hinj 2 0 rfl)), u2_ranking.other W (Or.inl (on hinj 2 0 rfl)), u2_count.other W (Or.inl (on hinj 2 0 rfl)), u3_rank.other W (Or.inl (on hinj 3 0 rfl)), u3_ranking.other W (Or.inl (on hinj 3 0 rfl)), u3_count.other W (Or.inl (on hinj 3 0 rfl)), a_l1.other W (on hinj 4 0 rfl), a_l2.other W (on hinj 5 0 rfl), a_l3.other W (on hinj 6 0 rfl), a_i1.other W (on hinj 7 0 rfl), a_i2.other W (on hinj 8 0 rfl), a_i3.other W (on hinj 9 0 rfl), a_k.other W (on hinj 10 0 rfl)⟩
theorem d11_56 : decode prog_98_method_8_code 56 = .ok (.aload_n 0, 1) := by decide +kernel
theorem d11_57 : decode prog_98_method_8_code 57 = .ok (.getfield 19, 3) := by decide +kernel
theorem d11_60 : decode prog_98_method_8_code 60 = .ok (.getfield 90, 3) := by decide +kernel
theorem d11_63 : decode prog_98_method_8_code 63 = .ok (.aload_n 0, 1) := by decide +kernel
theorem d11_64 : decode prog_98_method_8_code 64 = .ok (.getfield 84, 3) := by decide +kernel
theorem d11_67 : decode prog_98_method_8_code 67 = .ok (.laload, 1) := by decide +kernel
theorem d11_68 : decode prog_98_method_8_code 68 = .ok (.lastore, 1) := by decide +kernel
theorem d11_69 : decode prog_98_method_8_code 69 = .ok (.return_, 1) := by decide +kernel
set_option maxRecDepth 65536 in
set_option maxHeartbeats 40000000 in
theorem own_c11_0 (l : Launch) (Z : State) (a0 : Array Value) (hw : ∀ d ∈ tables_1, d.before a0 Z = true) (h0 : Heap) (n0 : Nat) (ad : Nat → Addr) (v_rn : Addr) (v_mg : Addr) (v_ra : Int32) (v_an : Int32) (v_at : Int32) (v_nx : Int64) (v_c1 : Int32) (v_c2 : Int32) (v_c3 : Int32) (v_l10 : Int64) (v_l11 : Int64) (v_l12 : Int64) (v_l20 : Int64) (v_l21 : Int64) (v_l22 : Int64) (v_l30 : Int64) (v_l31 : Int64) (v_l32 : Int64) (v_i10 : Int32) (v_i11 : Int32) (v_i12 : Int32) (v_i20 : Int32) (v_i21 : Int32) (v_i22 : Int32) (v_i31 : Int32) (v_i32 : Int32) (hq : ((v_l30 &&& (3 : Int64)).toInt32) = (0 : Int32)) (H : own_H Z h0 n0 ad v_rn v_mg v_ra (0 : Int32) (0 : Int32) v_an v_at v_nx v_c1 v_c2 v_c3 v_l10 v_l11 v_l12 v_l20 v_l21 v_l22 v_l30 v_l31 v_l32 v_i10 v_i11 v_i12 v_i20 v_i21 v_i22 (0 : Int32) v_i31 v_i32 (0 : Int32) (0 : Int32) (0 : Int32)) :
    Con l Z (⟨"com/example/nearfield/nearfield/job/RankedReads", "keepFresh", "()V"⟩ : MethodName) prog_98_method_8_code 1 none [] ({ frames := 0, cells := 0, slots := 0, locals := 0 } : Room) 0 0 #[(.ref (ad 0))] h0 (fun r h L => r = none ∧ own_H Z h n0 ad v_rn v_mg v_ra (0 : Int32) (1 : Int32) v_an v_at v_nx v_c1 v_c2 v_c3 v_l10 v_l11 v_l12 v_l20 v_l21 v_l22 v_l30 v_l31 v_l32 v_i10 v_i11 v_i12 v_i20 v_i21 v_i22 (0 : Int32) v_i31 v_i32 (0 : Int32) (0 : Int32) (0 : Int32) ∧ Fr n0 L) := by
  refine Con.of own_pn18 ?_
  intro pg ev s_ m bl mt cd s₁ hx hby hml hown hnm hret hlk hZ X0 e0
  rw [ef_11]
  show Gd _ _ _ _ (s₁.setTop (mkF m 0 #[.val (.ref (ad 0))] []))
  have N0 := Fr.nil n0
  refine Gd.go (fun _ w_k => XS.aloadN X0.here hx rfl (hb hby d11_0) rfl rfl w_k) ?_
  show Gd _ _ _ _ (s₁.setTop (mkF m 1 #[.val (.ref (ad 0))] [(.ref (ad 0))]))
  obtain ⟨T1, X1, e1, st1⟩ := getF X0 hx hZ hown (host := "") (Or.inl (ow hw 28 rfl)) Via.refl e0 H.2.2.2.2.2.2.2.2.1 (g := (mkF m 1 #[.val (.ref (ad 0))] [(.ref (ad 0))])) rfl rfl (hb hby d11_1)
  refine Gd.go (fun _ w_k => st1 _ (own_getR X1 hx hZ hown (ow hw 87 rfl) e1 H.2.2.2.2.2.2.2.2.2.2.2.2.2.2.2.2.2.2.2.2.2.2.2.2.2.2.2.2.1 (g := (mkF m 4 #[.val (.ref (ad 0))] [(.ref (ad 3))])) rfl rfl (hb hby d11_4) _ (XS.aloadN X1.here hx rfl (hb hby d11_7) rfl rfl w_k))) ?_
  show Gd _ _ _ _ (T1.setTop (mkF m 8 #[.val (.ref (ad 0))] [(.ref (ad 0)), (.ref (ad 9))]))
  obtain ⟨T2, X2, e2, st2⟩ := getF X1 hx hZ hown (host := "") (Or.inl (ow hw 81 rfl)) Via.refl e1 H.2.2.2.2.2.2.2.2.2.2.2.2.2.2.2.1 (g := (mkF m 8 #[.val (.ref (ad 0))] [(.ref (ad 0)), (.ref (ad 9))])) rfl rfl (hb hby d11_8)
  refine Gd.go (fun _ w_k => st2 _ (own_ldI X2 hx hZ e2 H.2.2.2.2.2.2.2.2.2.2.2.2.2.2.2.2.2.2.2.2.2.2.2.2.2.2.2.2.2.2.2.2.2.2.2.1 (j := (0 : Int32)) (by decide) (by decide) (v := (.int (0 : Int32))) rfl (g := (mkF m 11 #[.val (.ref (ad 0))] [(.int (0 : Int32)), (.ref (ad 9))])) rfl rfl (hb hby d11_11) _ (XS.aloadN X2.here hx rfl (hb hby d11_12) rfl rfl w_k))) ?_
  show Gd _ _ _ _ (T2.setTop (mkF m 13 #[.val (.ref (ad 0))] [(.ref (ad 0)), (.int (0 : Int32))]))
  obtain ⟨T3, X3, e3, st3⟩ := getF X2 hx hZ hown (host := "") (Or.inl (ow hw 49 rfl)) Via.refl e2 H.2.2.2.2.2.2.2.2.2.2.2.2.2.2.2.2.2.1 (g := (mkF m 13 #[.val (.ref (ad 0))] [(.ref (ad 0)), (.int (0 : Int32))])) rfl rfl (hb hby d11_13)
  refine Gd.go (fun _ w_k => st3 _ (XS.aloadN X3.here hx rfl (hb hby d11_16) rfl rfl w_k)) ?_
  show Gd _ _ _ _ (T3.setTop (mkF m 17 #[.val (.ref (ad 0))] [(.ref (ad 0)), (.ref (ad 10)), (.int (0 : Int32))]))
  obtain ⟨T4, X4, e4, st4⟩ := getF X3 hx hZ hown (host := "") (Or.inl (ow hw 28 rfl)) Via.refl e3 H.2.2.2.2.2.2.2.2.1 (g := (mkF m 17 #[.val (.ref (ad 0))] [(.ref (ad 0)), (.ref (ad 10)), (.int (0 : Int32))])) rfl rfl (hb hby d11_17)
  refine Gd.go (fun _ w_k => st4 _ (own_getR X4 hx hZ hown (ow hw 88 rfl) e4 H.2.2.2.2.2.2.2.2.2.2.2.2.2.2.2.2.2.2.2.2.2.2.2.2.2.2.2.1 (g := (mkF m 20 #[.val (.ref (ad 0))] [(.ref (ad 3)), (.ref (ad 10)), (.int (0 : Int32))])) rfl rfl (hb hby d11_20) _ (XS.aloadN X4.here hx rfl (hb hby d11_23) rfl rfl w_k))) ?_
  show Gd _ _ _ _ (T4.setTop (mkF m 24 #[.val (.ref (ad 0))] [(.ref (ad 0)), (.ref (ad 6)), (.ref (ad 10)), (.int (0 : Int32))]))
  obtain ⟨T5, X5, e5, st5⟩ := getF X4 hx hZ hown (host := "") (Or.inl (ow hw 81 rfl)) Via.refl e4 H.2.2.2.2.2.2.2.2.2.2.2.2.2.2.2.1 (g := (mkF m 24 #[.val (.ref (ad 0))] [(.ref (ad 0)), (.ref (ad 6)), (.ref (ad 10)), (.int (0 : Int32))])) rfl rfl (hb hby d11_24)
  refine Gd.go (fun _ w_k => st5 _ (own_ldJ X5 hx hZ e5 H.2.2.2.2.2.2.2.2.2.2.2.2.2.2.2.2.2.2.2.2.2.2.2.2.2.2.2.2.2.2.2.2.1 (j := (0 : Int32)) (by decide) (by decide) (v := (.long v_l30)) rfl (g := (mkF m 27 #[.val (.ref (ad 0))] [(.int (0 : Int32)), (.ref (ad 6)), (.ref (ad 10)), (.int (0 : Int32))])) rfl rfl (hb hby d11_27) _ (XS.aloadN X5.here hx rfl (hb hby d11_28) rfl rfl w_k))) ?_
  show Gd _ _ _ _ (T5.setTop (mkF m 29 #[.val (.ref (ad 0))] [(.ref (ad 0)), (.long v_l30), (.ref (ad 10)), (.int (0 : Int32))]))
  obtain ⟨T6, X6, e6, st6⟩ := getF X5 hx hZ hown (host := "") (Or.inl (ow hw 43 rfl)) Via.refl e5 H.2.2.2.2.2.2.2.2.2.2.2.1 (g := (mkF m 29 #[.val (.ref (ad 0))] [(.ref (ad 0)), (.long v_l30), (.ref (ad 10)), (.int (0 : Int32))])) rfl rfl (hb hby d11_29)
  refine Gd.go (fun _ w_k => st6 _ (XS.land X6.here hx rfl (hb hby d11_32) rfl (XS.l2i X6.here hx rfl (hb hby d11_33) rfl w_k))) ?_
  show Gd _ _ _ _ (T6.setTop (mkF m 34 #[.val (.ref (ad 0))] [(.int ((v_l30 &&& (3 : Int64)).toInt32)), (.ref (ad 10)), (.int (0 : Int32))]))
  rw [hq]
  show Gd _ _ _ _ (T6.setTop (mkF m 34 #[.val (.ref (ad 0))] [(.int (0 : Int32)), (.ref (ad 10)), (.int (0 : Int32))]))
  refine Gd.go (fun _ w_k => own_ldI X6 hx hZ e6 H.2.2.2.2.2.2.2.2.2.2.2.2.2.2.2.2.2.2.2.2.2.2.2.2.2.2.2.2.2.2.2.2.2.2.2.2 (j := (0 : Int32)) (by decide) (by decide) (v := (.int (0 : Int32))) rfl (g := (mkF m 34 #[.val (.ref (ad 0))] [(.int (0 : Int32)), (.ref (ad 10)), (.int (0 : Int32))])) rfl rfl (hb hby d11_34) _ (XS.icmpNo X6.here hx rfl (hb hby d11_35) rfl (teq (by decide)).2 w_k)) ?_
  show Gd _ _ _ _ (T6.setTop (mkF m 38 #[.val (.ref (ad 0))] []))
  refine Gd.go (fun _ w_k => XS.aloadN X6.here hx rfl (hb hby d11_38) rfl rfl w_k) ?_
  show Gd _ _ _ _ (T6.setTop (mkF m 39 #[.val (.ref (ad 0))] [(.ref (ad 0))]))
  obtain ⟨T7, X7, e7, st7⟩ := getF X6 hx hZ hown (host := "") (Or.inl (ow hw 28 rfl)) Via.refl e6 H.2.2.2.2.2.2.2.2.1 (g := (mkF m 39 #[.val (.ref (ad 0))] [(.ref (ad 0))])) rfl rfl (hb hby d11_39)
  refine Gd.go (fun _ w_k => st7 _ (own_getR X7 hx hZ hown (ow hw 88 rfl) e7 H.2.2.2.2.2.2.2.2.2.2.2.2.2.2.2.2.2.2.2.2.2.2.2.2.2.2.2.1 (g := (mkF m 42 #[.val (.ref (ad 0))] [(.ref (ad 3))])) rfl rfl (hb hby d11_42) _ (XS.aloadN X7.here hx rfl (hb hby d11_45) rfl rfl (XS.dup X7.here hx rfl (hb hby d11_46) rfl rfl w_k)))) ?_
  show Gd _ _ _ _ (T7.setTop (mkF m 47 #[.val (.ref (ad 0))] [(.ref (ad 0)), (.ref (ad 0)), (.ref (ad 6))]))
  obtain ⟨T8, X8, e8, st8⟩ := getF X7 hx hZ hown (host := "") (Or.inl (ow hw 79 rfl)) Via.refl e7 H.2.2.2.2.2.2.2.2.2.2.2.2.2.2.2.2.1 (g := (mkF m 47 #[.val (.ref (ad 0))] [(.ref (ad 0)), (.ref (ad 0)), (.ref (ad 6))])) rfl rfl (hb hby d11_47)
  refine Gd.go (fun _ w_k => st8 _ (XS.dupX1 X8.here hx rfl (hb hby d11_50) rfl rfl rfl (XS.iconst X8.here hx rfl (hb hby d11_51) (XS.iadd X8.here hx rfl (hb hby d11_52) rfl w_k)))) ?_
  show Gd _ _ _ _ (T8.setTop (mkF m 53 #[.val (.ref (ad 0))] [(.int ((0 : Int32) + (1 : Int32))), (.ref (ad 0)), (.int (0 : Int32)), (.ref (ad 6))]))
  rw [show ((0 : Int32) + (1 : Int32)) = (1 : Int32) from by decide]
  show Gd _ _ _ _ (T8.setTop (mkF m 53 #[.val (.ref (ad 0))] [(.int (1 : Int32)), (.ref (ad 0)), (.int (0 : Int32)), (.ref (ad 6))]))
  obtain ⟨T9, h9, X9, e9, W9, st9⟩ := putF X8 hx hZ hown (host := "") (Or.inl (ow hw 79 rfl)) Via.refl e8 H.2.2.2.2.2.2.2.2.2.2.2.2.2.2.2.2.1 H.2.2.1 (Or.inl (ow hw 80 rfl)) (ow hw 3 rfl) (ty := .int) (by decide) rfl rfl (g := (mkF m 53 #[.val (.ref (ad 0))] [(.int (1 : Int32)), (.ref (ad 0)), (.int (0 : Int32)), (.ref (ad 6))])) rfl rfl (hb hby d11_53)
  refine Gd.go (fun _ w_k => st9 _ w_k) ?_
  have H10 := own_w_fk hw H W9
  have xN11 := Fr.snoc X9 N0 (H.2.1 0 (by decide))
  show Gd _ _ _ _ (T9.setTop (mkF m 56 #[.val (.ref (ad 0))] [(.int (0 : Int32)), (.ref (ad 6))]))
  refine Gd.go (fun _ w_k => XS.aloadN X9.here hx rfl (hb hby d11_56) rfl rfl w_k) ?_
  show Gd _ _ _ _ (T9.setTop (mkF m 57 #[.val (.ref (ad 0))] [(.ref (ad 0)), (.int (0 : Int32)), (.ref (ad 6))]))
  obtain ⟨T12, X12, e12, st12⟩ := getF X9 hx hZ hown (host := "") (Or.inl (ow hw 28 rfl)) Via.refl e9 H10.2.2.2.2.2.2.2.2.1 (g := (mkF m 57 #[.val (.ref (ad 0))] [(.ref (ad 0)), (.int (0 : Int32)), (.ref (ad 6))])) rfl rfl (hb hby d11_57)
  refine Gd.go (fun _ w_k => st12 _ (own_getR X12 hx hZ hown (ow hw 88 rfl) e12 H10.2.2.2.2.2.2.2.2.2.2.2.2.2.2.2.2.2.2.2.2.2.2.2.2.2.2.2.1 (g := (mkF m 60 #[.val (.ref (ad 0))] [(.ref (ad 3)), (.int (0 : Int32)), (.ref (ad 6))])) rfl rfl (hb hby d11_60) _ (XS.aloadN X12.here hx rfl (hb hby d11_63) rfl rfl w_k))) ?_
  show Gd _ _ _ _ (T12.setTop (mkF m 64 #[.val (.ref (ad 0))] [(.ref (ad 0)), (.ref (ad 6)), (.int (0 : Int32)), (.ref (ad 6))]))
  obtain ⟨T13, X13, e13, st13⟩ := getF X12 hx hZ hown (host := "") (Or.inl (ow hw 81 rfl)) Via.refl e12 H10.2.2.2.2.2.2.2.2.2.2.2.2.2.2.2.1 (g := (mkF m 64 #[.val (.ref (ad 0))] [(.ref (ad 0)), (.ref (ad 6)), (.int (0 : Int32)), (.ref (ad 6))])) rfl rfl (hb hby d11_64)
  refine Gd.go (fun _ w_k => st13 _ (own_ldJ X13 hx hZ e13 H10.2.2.2.2.2.2.2.2.2.2.2.2.2.2.2.2.2.2.2.2.2.2.2.2.2.2.2.2.2.2.2.2.1 (j := (0 : Int32)) (by decide) (by decide) (v := (.long v_l30)) rfl (g := (mkF m 67 #[.val (.ref (ad 0))] [(.int (0 : Int32)), (.ref (ad 6)), (.int (0 : Int32)), (.ref (ad 6))])) rfl rfl (hb hby d11_67) _ w_k)) ?_
  show Gd _ _ _ _ (T13.setTop (mkF m 68 #[.val (.ref (ad 0))] [(.long v_l30), (.int (0 : Int32)), (.ref (ad 6))]))
  obtain ⟨T14, h14, X14, e14, W14, st14⟩ := own_stJ X13 hx hZ e13 H10.2.2.2.2.2.2.2.2.2.2.2.2.2.2.2.2.2.2.2.2.2.2.2.2.2.2.2.2.2.2.2.2.1 (j := (0 : Int32)) (by decide) (by decide) (g := (mkF m 68 #[.val (.ref (ad 0))] [(.long v_l30), (.int (0 : Int32)), (.ref (ad 6))])) rfl rfl (hb hby d11_68)
  refine Gd.go (fun _ w_k => st14 _ w_k) ?_
  have H15 := own_w_l30 hw H10 W14
  have xN16 := Fr.snoc X14 xN11 (H.2.1 6 (by decide))
  show Gd _ _ _ _ (T14.setTop (mkF m 69 #[.val (.ref (ad 0))] []))
  refine own_retV X14 hx hret hlk (hb hby d11_69) ?_ (by decide) (by decide)
  rw [e14]
  exact ⟨rfl, H15, xN16⟩
set_option maxRecDepth 65536 in
set_option maxHeartbeats 40000000 in
theorem own_c11_1 (l : Launch) (Z : State) (a0 : Array Value) (hw : ∀ d ∈ tables_1, d.before a0 Z = true) (h0 : Heap) (n0 : Nat) (ad : Nat → Addr) (v_rn : Addr) (v_mg : Addr) (v_ra : Int32) (v_an : Int32) (v_at : Int32) (v_nx : Int64) (v_c1 : Int32) (v_c2 : Int32) (v_c3 : Int32) (v_l10 : Int64) (v_l11 : Int64) (v_l12 : Int64) (v_l20 : Int64) (v_l21 : Int64) (v_l22 : Int64) (v_l30 : Int64) (v_l31 : Int64) (v_l32 : Int64) (v_i10 : Int32) (v_i11 : Int32) (v_i12 : Int32) (v_i20 : Int32) (v_i21 : Int32) (v_i22 : Int32) (v_i30 : Int32) (v_i32 : Int32) (hq : ((v_l31 &&& (3 : Int64)).toInt32) = (1 : Int32)) (H : own_H Z h0 n0 ad v_rn v_mg v_ra (1 : Int32) (1 : Int32) v_an v_at v_nx v_c1 v_c2 v_c3 v_l10 v_l11 v_l12 v_l20 v_l21 v_l22 v_l30 v_l31 v_l32 v_i10 v_i11 v_i12 v_i20 v_i21 v_i22 v_i30 (0 : Int32) v_i32 (0 : Int32) (0 : Int32) (0 : Int32)) :
    Con l Z (⟨"com/example/nearfield/nearfield/job/RankedReads", "keepFresh", "()V"⟩ : MethodName) prog_98_method_8_code 1 none [] ({ frames := 0, cells := 0, slots := 0, locals := 0 } : Room) 0 0 #[(.ref (ad 0))] h0 (fun r h L => r = none ∧ own_H Z h n0 ad v_rn v_mg v_ra (1 : Int32) (2 : Int32) v_an v_at v_nx v_c1 v_c2 v_c3 v_l10 v_l11 v_l12 v_l20 v_l21 v_l22 v_l30 v_l31 v_l32 v_i10 v_i11 v_i12 v_i20 v_i21 v_i22 v_i30 (0 : Int32) v_i32 (0 : Int32) (0 : Int32) (0 : Int32) ∧ Fr n0 L) := by
  refine Con.of own_pn18 ?_
  intro pg ev s_ m bl mt cd s₁ hx hby hml hown hnm hret hlk hZ X0 e0
  rw [ef_11]
  show Gd _ _ _ _ (s₁.setTop (mkF m 0 #[.val (.ref (ad 0))] []))
  have N0 := Fr.nil n0
  refine Gd.go (fun _ w_k => XS.aloadN X0.here hx rfl (hb hby d11_0) rfl rfl w_k) ?_
  show Gd _ _ _ _ (s₁.setTop (mkF m 1 #[.val (.ref (ad 0))] [(.ref (ad 0))]))
  obtain ⟨T1, X1, e1, st1⟩ := getF X0 hx hZ hown (host := "") (Or.inl (ow hw 28 rfl)) Via.refl e0 H.2.2.2.2.2.2.2.2.1 (g := (mkF m 1 #[.val (.ref (ad 0))] [(.ref (ad 0))])) rfl rfl (hb hby d11_1)
  refine Gd.go (fun _ w_k => st1 _ (own_getR X1 hx hZ hown (ow hw 87 rfl) e1 H.2.2.2.2.2.2.2.2.2.2.2.2.2.2.2.2.2.2.2.2.2.2.2.2.2.2.2.2.1 (g := (mkF m 4 #[.val (.ref (ad 0))] [(.ref (ad 3))])) rfl rfl (hb hby d11_4) _ (XS.aloadN X1.here hx rfl (hb hby d11_7) rfl rfl w_k))) ?_
  show Gd _ _ _ _ (T1.setTop (mkF m 8 #[.val (.ref (ad 0))] [(.ref (ad 0)), (.ref (ad 9))]))
  obtain ⟨T2, X2, e2, st2⟩ := getF X1 hx hZ hown (host := "") (Or.inl (ow hw 81 rfl)) Via.refl e1 H.2.2.2.2.2.2.2.2.2.2.2.2.2.2.2.1 (g := (mkF m 8 #[.val (.ref (ad 0))] [(.ref (ad 0)), (.ref (ad 9))])) rfl rfl (hb hby d11_8)
  refine Gd.go (fun _ w_k => st2 _ (own_ldI X2 hx hZ e2 H.2.2.2.2.2.2.2.2.2.2.2.2.2.2.2.2.2.2.2.2.2.2.2.2.2.2.2.2.2.2.2.2.2.2.2.1 (j := (1 : Int32)) (by decide) (by decide) (v := (.int (0 : Int32))) rfl (g := (mkF m 11 #[.val (.ref (ad 0))] [(.int (1 : Int32)), (.ref (ad 9))])) rfl rfl (hb hby d11_11) _ (XS.aloadN X2.here hx rfl (hb hby d11_12) rfl rfl w_k))) ?_
  show Gd _ _ _ _ (T2.setTop (mkF m 13 #[.val (.ref (ad 0))] [(.ref (ad 0)), (.int (0 : Int32))]))
  obtain ⟨T3, X3, e3, st3⟩ := getF X2 hx hZ hown (host := "") (Or.inl (ow hw 49 rfl)) Via.refl e2 H.2.2.2.2.2.2.2.2.2.2.2.2.2.2.2.2.2.1 (g := (mkF m 13 #[.val (.ref (ad 0))] [(.ref (ad 0)), (.int (0 : Int32))])) rfl rfl (hb hby d11_13)
  refine Gd.go (fun _ w_k => st3 _ (XS.aloadN X3.here hx rfl (hb hby d11_16) rfl rfl w_k)) ?_
  show Gd _ _ _ _ (T3.setTop (mkF m 17 #[.val (.ref (ad 0))] [(.ref (ad 0)), (.ref (ad 10)), (.int (0 : Int32))]))
  obtain ⟨T4, X4, e4, st4⟩ := getF X3 hx hZ hown (host := "") (Or.inl (ow hw 28 rfl)) Via.refl e3 H.2.2.2.2.2.2.2.2.1 (g := (mkF m 17 #[.val (.ref (ad 0))] [(.ref (ad 0)), (.ref (ad 10)), (.int (0 : Int32))])) rfl rfl (hb hby d11_17)
  refine Gd.go (fun _ w_k => st4 _ (own_getR X4 hx hZ hown (ow hw 88 rfl) e4 H.2.2.2.2.2.2.2.2.2.2.2.2.2.2.2.2.2.2.2.2.2.2.2.2.2.2.2.1 (g := (mkF m 20 #[.val (.ref (ad 0))] [(.ref (ad 3)), (.ref (ad 10)), (.int (0 : Int32))])) rfl rfl (hb hby d11_20) _ (XS.aloadN X4.here hx rfl (hb hby d11_23) rfl rfl w_k))) ?_
  show Gd _ _ _ _ (T4.setTop (mkF m 24 #[.val (.ref (ad 0))] [(.ref (ad 0)), (.ref (ad 6)), (.ref (ad 10)), (.int (0 : Int32))]))
  obtain ⟨T5, X5, e5, st5⟩ := getF X4 hx hZ hown (host := "") (Or.inl (ow hw 81 rfl)) Via.refl e4 H.2.2.2.2.2.2.2.2.2.2.2.2.2.2.2.1 (g := (mkF m 24 #[.val (.ref (ad 0))] [(.ref (ad 0)), (.ref (ad 6)), (.ref (ad 10)), (.int (0 : Int32))])) rfl rfl (hb hby d11_24)
  refine Gd.go (fun _ w_k => st5 _ (own_ldJ X5 hx hZ e5 H.2.2.2.2.2.2.2.2.2.2.2.2.2.2.2.2.2.2.2.2.2.2.2.2.2.2.2.2.2.2.2.2.1 (j := (1 : Int32)) (by decide) (by decide) (v := (.long v_l31)) rfl (g := (mkF m 27 #[.val (.ref (ad 0))] [(.int (1 : Int32)), (.ref (ad 6)), (.ref (ad 10)), (.int (0 : Int32))])) rfl rfl (hb hby d11_27) _ (XS.aloadN X5.here hx rfl (hb hby d11_28) rfl rfl w_k))) ?_
  show Gd _ _ _ _ (T5.setTop (mkF m 29 #[.val (.ref (ad 0))] [(.ref (ad 0)), (.long v_l31), (.ref (ad 10)), (.int (0 : Int32))]))
  obtain ⟨T6, X6, e6, st6⟩ := getF X5 hx hZ hown (host := "") (Or.inl (ow hw 43 rfl)) Via.refl e5 H.2.2.2.2.2.2.2.2.2.2.2.1 (g := (mkF m 29 #[.val (.ref (ad 0))] [(.ref (ad 0)), (.long v_l31), (.ref (ad 10)), (.int (0 : Int32))])) rfl rfl (hb hby d11_29)
  refine Gd.go (fun _ w_k => st6 _ (XS.land X6.here hx rfl (hb hby d11_32) rfl (XS.l2i X6.here hx rfl (hb hby d11_33) rfl w_k))) ?_
  show Gd _ _ _ _ (T6.setTop (mkF m 34 #[.val (.ref (ad 0))] [(.int ((v_l31 &&& (3 : Int64)).toInt32)), (.ref (ad 10)), (.int (0 : Int32))]))
  rw [hq]
  show Gd _ _ _ _ (T6.setTop (mkF m 34 #[.val (.ref (ad 0))] [(.int (1 : Int32)), (.ref (ad 10)), (.int (0 : Int32))]))
  refine Gd.go (fun _ w_k => own_ldI X6 hx hZ e6 H.2.2.2.2.2.2.2.2.2.2.2.2.2.2.2.2.2.2.2.2.2.2.2.2.2.2.2.2.2.2.2.2.2.2.2.2 (j := (1 : Int32)) (by decide) (by decide) (v := (.int (0 : Int32))) rfl (g := (mkF m 34 #[.val (.ref (ad 0))] [(.int (1 : Int32)), (.ref (ad 10)), (.int (0 : Int32))])) rfl rfl (hb hby d11_34) _ (XS.icmpNo X6.here hx rfl (hb hby d11_35) rfl (teq (by decide)).2 w_k)) ?_
  show Gd _ _ _ _ (T6.setTop (mkF m 38 #[.val (.ref (ad 0))] []))
  refine Gd.go (fun _ w_k => XS.aloadN X6.here hx rfl (hb hby d11_38) rfl rfl w_k) ?_
  show Gd _ _ _ _ (T6.setTop (mkF m 39 #[.val (.ref (ad 0))] [(.ref (ad 0))]))
  obtain ⟨T7, X7, e7, st7⟩ := getF X6 hx hZ hown (host := "") (Or.inl (ow hw 28 rfl)) Via.refl e6 H.2.2.2.2.2.2.2.2.1 (g := (mkF m 39 #[.val (.ref (ad 0))] [(.ref (ad 0))])) rfl rfl (hb hby d11_39)
  refine Gd.go (fun _ w_k => st7 _ (own_getR X7 hx hZ hown (ow hw 88 rfl) e7 H.2.2.2.2.2.2.2.2.2.2.2.2.2.2.2.2.2.2.2.2.2.2.2.2.2.2.2.1 (g := (mkF m 42 #[.val (.ref (ad 0))] [(.ref (ad 3))])) rfl rfl (hb hby d11_42) _ (XS.aloadN X7.here hx rfl (hb hby d11_45) rfl rfl (XS.dup X7.here hx rfl (hb hby d11_46) rfl rfl w_k)))) ?_
  show Gd _ _ _ _ (T7.setTop (mkF m 47 #[.val (.ref (ad 0))] [(.ref (ad 0)), (.ref (ad 0)), (.ref (ad 6))]))
  obtain ⟨T8, X8, e8, st8⟩ := getF X7 hx hZ hown (host := "") (Or.inl (ow hw 79 rfl)) Via.refl e7 H.2.2.2.2.2.2.2.2.2.2.2.2.2.2.2.2.1 (g := (mkF m 47 #[.val (.ref (ad 0))] [(.ref (ad 0)), (.ref (ad 0)), (.ref (ad 6))])) rfl rfl (hb hby d11_47)
  refine Gd.go (fun _ w_k => st8 _ (XS.dupX1 X8.here hx rfl (hb hby d11_50) rfl rfl rfl (XS.iconst X8.here hx rfl (hb hby d11_51) (XS.iadd X8.here hx rfl (hb hby d11_52) rfl w_k)))) ?_
  show Gd _ _ _ _ (T8.setTop (mkF m 53 #[.val (.ref (ad 0))] [(.int ((1 : Int32) + (1 : Int32))), (.ref (ad 0)), (.int (1 : Int32)), (.ref (ad 6))]))
  rw [show ((1 : Int32) + (1 : Int32)) = (2 : Int32) from by decide]
  show Gd _ _ _ _ (T8.setTop (mkF m 53 #[.val (.ref (ad 0))] [(.int (2 : Int32)), (.ref (ad 0)), (.int (1 : Int32)), (.ref (ad 6))]))
  obtain ⟨T9, h9, X9, e9, W9, st9⟩ := putF X8 hx hZ hown (host := "") (Or.inl (ow hw 79 rfl)) Via.refl e8 H.2.2.2.2.2.2.2.2.2.2.2.2.2.2.2.2.1 H.2.2.1 (Or.inl (ow hw 80 rfl)) (ow hw 3 rfl) (ty := .int) (by decide) rfl rfl (g := (mkF m 53 #[.val (.ref (ad 0))] [(.int (2 : Int32)), (.ref (ad 0)), (.int (1 : Int32)), (.ref (ad 6))])) rfl rfl (hb hby d11_53)
  refine Gd.go (fun _ w_k => st9 _ w_k) ?_
  have H10 := own_w_fk hw H W9
  have xN11 := Fr.snoc X9 N0 (H.2.1 0 (by decide))
  show Gd _ _ _ _ (T9.setTop (mkF m 56 #[.val (.ref (ad 0))] [(.int (1 : Int32)), (.ref (ad 6))]))
  refine Gd.go (fun _ w_k => XS.aloadN X9.here hx rfl (hb hby d11_56) rfl rfl w_k) ?_
  show Gd _ _ _ _ (T9.setTop (mkF m 57 #[.val (.ref (ad 0))] [(.ref (ad 0)), (.int (1 : Int32)), (.ref (ad 6))]))
  obtain ⟨T12, X12, e12, st12⟩ := getF X9 hx hZ hown (host := "") (Or.inl (ow hw 28 rfl)) Via.refl e9 H10.2.2.2.2.2.2.2.2.1 (g := (mkF m 57 #[.val (.ref (ad 0))] [(.ref (ad 0)), (.int (1 : Int32)), (.ref (ad 6))])) rfl rfl (hb hby d11_57)
  refine Gd.go (fun _ w_k => st12 _ (own_getR X12 hx hZ hown (ow hw 88 rfl) e12 H10.2.2.2.2.2.2.2.2.2.2.2.2.2.2.2.2.2.2.2.2.2.2.2.2.2.2.2.1 (g := (mkF m 60 #[.val (.ref (ad 0))] [(.ref (ad 3)), (.int (1 : Int32)), (.ref (ad 6))])) rfl rfl (hb hby d11_60) _ (XS.aloadN X12.here hx rfl (hb hby d11_63) rfl rfl w_k))) ?_
  show Gd _ _ _ _ (T12.setTop (mkF m 64 #[.val (.ref (ad 0))] [(.ref (ad 0)), (.ref (ad 6)), (.int (1 : Int32)), (.ref (ad 6))]))
  obtain ⟨T13, X13, e13, st13⟩ := getF X12 hx hZ hown (host := "") (Or.inl (ow hw 81 rfl)) Via.refl e12 H10.2.2.2.2.2.2.2.2.2.2.2.2.2.2.2.1 (g := (mkF m 64 #[.val (.ref (ad 0))] [(.ref (ad 0)), (.ref (ad 6)), (.int (1 : Int32)), (.ref (ad 6))])) rfl rfl (hb hby d11_64)
  refine Gd.go (fun _ w_k => st13 _ (own_ldJ X13 hx hZ e13 H10.2.2.2.2.2.2.2.2.2.2.2.2.2.2.2.2.2.2.2.2.2.2.2.2.2.2.2.2.2.2.2.2.1 (j := (1 : Int32)) (by decide) (by decide) (v := (.long v_l31)) rfl (g := (mkF m 67 #[.val (.ref (ad 0))] [(.int (1 : Int32)), (.ref (ad 6)), (.int (1 : Int32)), (.ref (ad 6))])) rfl rfl (hb hby d11_67) _ w_k)) ?_
  show Gd _ _ _ _ (T13.setTop (mkF m 68 #[.val (.ref (ad 0))] [(.long v_l31), (.int (1 : Int32)), (.ref (ad 6))]))
  obtain ⟨T14, h14, X14, e14, W14, st14⟩ := own_stJ X13 hx hZ e13 H10.2.2.2.2.2.2.2.2.2.2.2.2.2.2.2.2.2.2.2.2.2.2.2.2.2.2.2.2.2.2.2.2.1 (j := (1 : Int32)) (by decide) (by decide) (g := (mkF m 68 #[.val (.ref (ad 0))] [(.long v_l31), (.int (1 : Int32)), (.ref (ad 6))])) rfl rfl (hb hby d11_68)
  refine Gd.go (fun _ w_k => st14 _ w_k) ?_
  have H15 := own_w_l31 hw H10 W14
  have xN16 := Fr.snoc X14 xN11 (H.2.1 6 (by decide))
  show Gd _ _ _ _ (T14.setTop (mkF m 69 #[.val (.ref (ad 0))] []))
  refine own_retV X14 hx hret hlk (hb hby d11_69) ?_ (by decide) (by decide)
  rw [e14]
  exact ⟨rfl, H15, xN16⟩
set_option maxRecDepth 65536 in
set_option maxHeartbeats 40000000 in
theorem own_c11_2 (l : Launch) (Z : State) (a0 : Array Value) (hw : ∀ d ∈ tables_1, d.before a0 Z = true) (h0 : Heap) (n0 : Nat) (ad : Nat → Addr) (v_rn : Addr) (v_mg : Addr) (v_ra : Int32) (v_an : Int32) (v_at : Int32) (v_nx : Int64) (v_c1 : Int32) (v_c2 : Int32) (v_c3 : Int32) (v_l10 : Int64) (v_l11 : Int64) (v_l12 : Int64) (v_l20 : Int64) (v_l21 : Int64) (v_l22 : Int64) (v_l30 : Int64) (v_l31 : Int64) (v_l32 : Int64) (v_i10 : Int32) (v_i11 : Int32) (v_i12 : Int32) (v_i20 : Int32) (v_i21 : Int32) (v_i22 : Int32) (v_i30 : Int32) (v_i31 : Int32) (hq : ((v_l32 &&& (3 : Int64)).toInt32) = (2 : Int32)) (H : own_H Z h0 n0 ad v_rn v_mg v_ra (2 : Int32) (2 : Int32) v_an v_at v_nx v_c1 v_c2 v_c3 v_l10 v_l11 v_l12 v_l20 v_l21 v_l22 v_l30 v_l31 v_l32 v_i10 v_i11 v_i12 v_i20 v_i21 v_i22 v_i30 v_i31 (0 : Int32) (0 : Int32) (0 : Int32) (0 : Int32)) :
    Con l Z (⟨"com/example/nearfield/nearfield/job/RankedReads", "keepFresh", "()V"⟩ : MethodName) prog_98_method_8_code 1 none [] ({ frames := 0, cells := 0, slots := 0, locals := 0 } : Room) 0 0 #[(.ref (ad 0))] h0 (fun r h L => r = none ∧ own_H Z h n0 ad v_rn v_mg v_ra (2 : Int32) (3 : Int32) v_an v_at v_nx v_c1 v_c2 v_c3 v_l10 v_l11 v_l12 v_l20 v_l21 v_l22 v_l30 v_l31 v_l32 v_i10 v_i11 v_i12 v_i20 v_i21 v_i22 v_i30 v_i31 (0 : Int32) (0 : Int32) (0 : Int32) (0 : Int32) ∧ Fr n0 L) := by
  refine Con.of own_pn18 ?_
  intro pg ev s_ m bl mt cd s₁ hx hby hml hown hnm hret hlk hZ X0 e0
  rw [ef_11]
  show Gd _ _ _ _ (s₁.setTop (mkF m 0 #[.val (.ref (ad 0))] []))
  have N0 := Fr.nil n0
  refine Gd.go (fun _ w_k => XS.aloadN X0.here hx rfl (hb hby d11_0) rfl rfl w_k) ?_
  show Gd _ _ _ _ (s₁.setTop (mkF m 1 #[.val (.ref (ad 0))] [(.ref (ad 0))]))
  obtain ⟨T1, X1, e1, st1⟩ := getF X0 hx hZ hown (host := "") (Or.inl (ow hw 28 rfl)) Via.refl e0 H.2.2.2.2.2.2.2.2.1 (g := (mkF m 1 #[.val (.ref (ad 0))] [(.ref (ad 0))])) rfl rfl (hb hby d11_1)
  refine Gd.go (fun _ w_k => st1 _ (own_getR X1 hx hZ hown (ow hw 87 rfl) e1 H.2.2.2.2.2.2.2.2.2.2.2.2.2.2.2.2.2.2.2.2.2.2.2.2.2.2.2.2.1 (g := (mkF m 4 #[.val (.ref (ad 0))] [(.ref (ad 3))])) rfl rfl (hb hby d11_4) _ (XS.aloadN X1.here hx rfl (hb hby d11_7) rfl rfl w_k))) ?_
  show Gd _ _ _ _ (T1.setTop (mkF m 8 #[.val (.ref (ad 0))] [(.ref (ad 0)), (.ref (ad 9))]))
  obtain ⟨T2, X2, e2, st2⟩ := getF X1 hx hZ hown (host := "") (Or.inl (ow hw 81 rfl)) Via.refl e1 H.2.2.2.2.2.2.2.2.2.2.2.2.2.2.2.1 (g := (mkF m 8 #[.val (.ref (ad 0))] [(.ref (ad 0)), (.ref (ad 9))])) rfl rfl (hb hby d11_8)
  refine Gd.go (fun _ w_k => st2 _ (own_ldI X2 hx hZ e2 H.2.2.2.2.2.2.2.2.2.2.2.2.2.2.2.2.2.2.2.2.2.2.2.2.2.2.2.2.2.2.2.2.2.2.2.1 (j := (2 : Int32)) (by decide) (by decide) (v := (.int (0 : Int32))) rfl (g := (mkF m 11 #[.val (.ref (ad 0))] [(.int (2 : Int32)), (.ref (ad 9))])) rfl rfl (hb hby d11_11) _ (XS.aloadN X2.here hx rfl (hb hby d11_12) rfl rfl w_k))) ?_
  show Gd _ _ _ _ (T2.setTop (mkF m 13 #[.val (.ref (ad 0))] [(.ref (ad 0)), (.int (0 : Int32))]))
  obtain ⟨T3, X3, e3, st3⟩ := getF X2 hx hZ hown (host := "") (Or.inl (ow hw 49 rfl)) Via.refl e2 H.2.2.2.2.2.2.2.2.2.2.2.2.2.2.2.2.2.1 (g := (mkF m 13 #[.val (.ref (ad 0))] [(.ref (ad 0)), (.int (0 : Int32))])) rfl rfl (hb hby d11_13)
  refine Gd.go (fun _ w_k => st3 _ (XS.aloadN X3.here hx rfl (hb hby d11_16) rfl rfl w_k)) ?_
  show Gd _ _ _ _ (T3.setTop (mkF m 17 #[.val (.ref (ad 0))] [(.ref (ad 0)), (.ref (ad 10)), (.int (0 : Int32))]))
  obtain ⟨T4, X4, e4, st4⟩ := getF X3 hx hZ hown (host := "") (Or.inl (ow hw 28 rfl)) Via.refl e3 H.2.2.2.2.2.2.2.2.1 (g := (mkF m 17 #[.val (.ref (ad 0))] [(.ref (ad 0)), (.ref (ad 10)), (.int (0 : Int32))])) rfl rfl (hb hby d11_17)
  refine Gd.go (fun _ w_k => st4 _ (own_getR X4 hx hZ hown (ow hw 88 rfl) e4 H.2.2.2.2.2.2.2.2.2.2.2.2.2.2.2.2.2.2.2.2.2.2.2.2.2.2.2.1 (g := (mkF m 20 #[.val (.ref (ad 0))] [(.ref (ad 3)), (.ref (ad 10)), (.int (0 : Int32))])) rfl rfl (hb hby d11_20) _ (XS.aloadN X4.here hx rfl (hb hby d11_23) rfl rfl w_k))) ?_
  show Gd _ _ _ _ (T4.setTop (mkF m 24 #[.val (.ref (ad 0))] [(.ref (ad 0)), (.ref (ad 6)), (.ref (ad 10)), (.int (0 : Int32))]))
  obtain ⟨T5, X5, e5, st5⟩ := getF X4 hx hZ hown (host := "") (Or.inl (ow hw 81 rfl)) Via.refl e4 H.2.2.2.2.2.2.2.2.2.2.2.2.2.2.2.1 (g := (mkF m 24 #[.val (.ref (ad 0))] [(.ref (ad 0)), (.ref (ad 6)), (.ref (ad 10)), (.int (0 : Int32))])) rfl rfl (hb hby d11_24)
  refine Gd.go (fun _ w_k => st5 _ (own_ldJ X5 hx hZ e5 H.2.2.2.2.2.2.2.2.2.2.2.2.2.2.2.2.2.2.2.2.2.2.2.2.2.2.2.2.2.2.2.2.1 (j := (2 : Int32)) (by decide) (by decide) (v := (.long v_l32)) rfl (g := (mkF m 27 #[.val (.ref (ad 0))] [(.int (2 : Int32)), (.ref (ad 6)), (.ref (ad 10)), (.int (0 : Int32))])) rfl rfl (hb hby d11_27) _ (XS.aloadN X5.here hx rfl (hb hby d11_28) rfl rfl w_k))) ?_
  show Gd _ _ _ _ (T5.setTop (mkF m 29 #[.val (.ref (ad 0))] [(.ref (ad 0)), (.long v_l32), (.ref (ad 10)), (.int (0 : Int32))]))
  obtain ⟨T6, X6, e6, st6⟩ := getF X5 hx hZ hown (host := "") (Or.inl (ow hw 43 rfl)) Via.refl e5 H.2.2.2.2.2.2.2.2.2.2.2.1 (g := (mkF m 29 #[.val (.ref (ad 0))] [(.ref (ad 0)), (.long v_l32), (.ref (ad 10)), (.int (0 : Int32))])) rfl rfl (hb hby d11_29)
  refine Gd.go (fun _ w_k => st6 _ (XS.land X6.here hx rfl (hb hby d11_32) rfl (XS.l2i X6.here hx rfl (hb hby d11_33) rfl w_k))) ?_
  show Gd _ _ _ _ (T6.setTop (mkF m 34 #[.val (.ref (ad 0))] [(.int ((v_l32 &&& (3 : Int64)).toInt32)), (.ref (ad 10)), (.int (0 : Int32))]))
  rw [hq]
  show Gd _ _ _ _ (T6.setTop (mkF m 34 #[.val (.ref (ad 0))] [(.int (2 : Int32)), (.ref (ad 10)), (.int (0 : Int32))]))
  refine Gd.go (fun _ w_k => own_ldI X6 hx hZ e6 H.2.2.2.2.2.2.2.2.2.2.2.2.2.2.2.2.2.2.2.2.2.2.2.2.2.2.2.2.2.2.2.2.2.2.2.2 (j := (2 : Int32)) (by decide) (by decide) (v := (.int (0 : Int32))) rfl (g := (mkF m 34 #[.val (.ref (ad 0))] [(.int (2 : Int32)), (.ref (ad 10)), (.int (0 : Int32))])) rfl rfl (hb hby d11_34) _ (XS.icmpNo X6.here hx rfl (hb hby d11_35) rfl (teq (by decide)).2 w_k)) ?_
  show Gd _ _ _ _ (T6.setTop (mkF m 38 #[.val (.ref (ad 0))] []))
  refine Gd.go (fun _ w_k => XS.aloadN X6.here hx rfl (hb hby d11_38) rfl rfl w_k) ?_
  show Gd _ _ _ _ (T6.setTop (mkF m 39 #[.val (.ref (ad 0))] [(.ref (ad 0))]))
  obtain ⟨T7, X7, e7, st7⟩ := getF X6 hx hZ hown (host := "") (Or.inl (ow hw 28 rfl)) Via.refl e6 H.2.2.2.2.2.2.2.2.1 (g := (mkF m 39 #[.val (.ref (ad 0))] [(.ref (ad 0))])) rfl rfl (hb hby d11_39)
  refine Gd.go (fun _ w_k => st7 _ (own_getR X7 hx hZ hown (ow hw 88 rfl) e7 H.2.2.2.2.2.2.2.2.2.2.2.2.2.2.2.2.2.2.2.2.2.2.2.2.2.2.2.1 (g := (mkF m 42 #[.val (.ref (ad 0))] [(.ref (ad 3))])) rfl rfl (hb hby d11_42) _ (XS.aloadN X7.here hx rfl (hb hby d11_45) rfl rfl (XS.dup X7.here hx rfl (hb hby d11_46) rfl rfl w_k)))) ?_
  show Gd _ _ _ _ (T7.setTop (mkF m 47 #[.val (.ref (ad 0))] [(.ref (ad 0)), (.ref (ad 0)), (.ref (ad 6))]))
  obtain ⟨T8, X8, e8, st8⟩ := getF X7 hx hZ hown (host := "") (Or.inl (ow hw 79 rfl)) Via.refl e7 H.2.2.2.2.2.2.2.2.2.2.2.2.2.2.2.2.1 (g := (mkF m 47 #[.val (.ref (ad 0))] [(.ref (ad 0)), (.ref (ad 0)), (.ref (ad 6))])) rfl rfl (hb hby d11_47)
  refine Gd.go (fun _ w_k => st8 _ (XS.dupX1 X8.here hx rfl (hb hby d11_50) rfl rfl rfl (XS.iconst X8.here hx rfl (hb hby d11_51) (XS.iadd X8.here hx rfl (hb hby d11_52) rfl w_k)))) ?_
  show Gd _ _ _ _ (T8.setTop (mkF m 53 #[.val (.ref (ad 0))] [(.int ((2 : Int32) + (1 : Int32))), (.ref (ad 0)), (.int (2 : Int32)), (.ref (ad 6))]))
  rw [show ((2 : Int32) + (1 : Int32)) = (3 : Int32) from by decide]
  show Gd _ _ _ _ (T8.setTop (mkF m 53 #[.val (.ref (ad 0))] [(.int (3 : Int32)), (.ref (ad 0)), (.int (2 : Int32)), (.ref (ad 6))]))
  obtain ⟨T9, h9, X9, e9, W9, st9⟩ := putF X8 hx hZ hown (host := "") (Or.inl (ow hw 79 rfl)) Via.refl e8 H.2.2.2.2.2.2.2.2.2.2.2.2.2.2.2.2.1 H.2.2.1 (Or.inl (ow hw 80 rfl)) (ow hw 3 rfl) (ty := .int) (by decide) rfl rfl (g := (mkF m 53 #[.val (.ref (ad 0))] [(.int (3 : Int32)), (.ref (ad 0)), (.int (2 : Int32)), (.ref (ad 6))])) rfl rfl (hb hby d11_53)
  refine Gd.go (fun _ w_k => st9 _ w_k) ?_
  have H10 := own_w_fk hw H W9
  have xN11 := Fr.snoc X9 N0 (H.2.1 0 (by decide))
  show Gd _ _ _ _ (T9.setTop (mkF m 56 #[.val (.ref (ad 0))] [(.int (2 : Int32)), (.ref (ad 6))]))
  refine Gd.go (fun _ w_k => XS.aloadN X9.here hx rfl (hb hby d11_56) rfl rfl w_k) ?_
  show Gd _ _ _ _ (T9.setTop (mkF m 57 #[.val (.ref (ad 0))] [(.ref (ad 0)), (.int (2 : Int32)), (.ref (ad 6))]))
  obtain ⟨T12, X12, e12, st12⟩ := getF X9 hx hZ hown (host := "") (Or.inl (ow hw 28 rfl)) Via.refl e9 H10.2.2.2.2.2.2.2.2.1 (g := (mkF m 57 #[.val (.ref (ad 0))] [(.ref (ad 0)), (.int (2 : Int32)), (.ref (ad 6))])) rfl rfl (hb hby d11_57)
  refine Gd.go (fun _ w_k => st12 _ (own_getR X12 hx hZ hown (ow hw 88 rfl) e12 H10.2.2.2.2.2.2.2.2.2.2.2.2.2.2.2.2.2.2.2.2.2.2.2.2.2.2.2.1 (g := (mkF m 60 #[.val (.ref (ad 0))] [(.ref (ad 3)), (.int (2 : Int32)), (.ref (ad 6))])) rfl rfl (hb hby d11_60) _ (XS.aloadN X12.here hx rfl (hb hby d11_63) rfl rfl w_k))) ?_
  show Gd _ _ _ _ (T12.setTop (mkF m 64 #[.val (.ref (ad 0))] [(.ref (ad 0)), (.ref (ad 6)), (.int (2 : Int32)), (.ref (ad 6))]))
  obtain ⟨T13, X13, e13, st13⟩ := getF X12 hx hZ hown (host := "") (Or.inl (ow hw 81 rfl)) Via.refl e12 H10.2.2.2.2.2.2.2.2.2.2.2.2.2.2.2.1 (g := (mkF m 64 #[.val (.ref (ad 0))] [(.ref (ad 0)), (.ref (ad 6)), (.int (2 : Int32)), (.ref (ad 6))])) rfl rfl (hb hby d11_64)
  refine Gd.go (fun _ w_k => st13 _ (own_ldJ X13 hx hZ e13 H10.2.2.2.2.2.2.2.2.2.2.2.2.2.2.2.2.2.2.2.2.2.2.2.2.2.2.2.2.2.2.2.2.1 (j := (2 : Int32)) (by decide) (by decide) (v := (.long v_l32)) rfl (g := (mkF m 67 #[.val (.ref (ad 0))] [(.int (2 : Int32)), (.ref (ad 6)), (.int (2 : Int32)), (.ref (ad 6))])) rfl rfl (hb hby d11_67) _ w_k)) ?_
  show Gd _ _ _ _ (T13.setTop (mkF m 68 #[.val (.ref (ad 0))] [(.long v_l32), (.int (2 : Int32)), (.ref (ad 6))]))
  obtain ⟨T14, h14, X14, e14, W14, st14⟩ := own_stJ X13 hx hZ e13 H10.2.2.2.2.2.2.2.2.2.2.2.2.2.2.2.2.2.2.2.2.2.2.2.2.2.2.2.2.2.2.2.2.1 (j := (2 : Int32)) (by decide) (by decide) (g := (mkF m 68 #[.val (.ref (ad 0))] [(.long v_l32), (.int (2 : Int32)), (.ref (ad 6))])) rfl rfl (hb hby d11_68)
  refine Gd.go (fun _ w_k => st14 _ w_k) ?_
  have H15 := own_w_l32 hw H10 W14
  have xN16 := Fr.snoc X14 xN11 (H.2.1 6 (by decide))
  show Gd _ _ _ _ (T14.setTop (mkF m 69 #[.val (.ref (ad 0))] []))
  refine own_retV X14 hx hret hlk (hb hby d11_69) ?_ (by decide) (by decide)
  rw [e14]
  exact ⟨rfl, H15, xN16⟩
theorem own_pn19 : plainFor (⟨"com/example/nearfield/nearfield/job/RankedReads", "mergeSome", "()V"⟩ : MethodName) = true := by first | exact plainFor_of_name (by first | (simp [plainName, overriddenIn, x]; done) | decide +kernel) | decide +kernel
theorem ef_19 (m : MethodId) (q0 : Addr) : entryFrame m #[(.ref q0)] 15 = mkF m 0 #[.val (.ref q0), .unset, .unset, .unset, .unset, .unset, .unset, .unset, .unset, .unset, .unset, .unset, .unset, .unset, .unset] [] := by first | (simp [entryFrame, mkF, argsToLocals, Value.category, maxLocals]; done) | rfl
theorem d19_0 : decode prog_98_method_9_code 0 = .ok (.aload_n 0, 1) := by decide +kernel
theorem d19_1 : decode prog_98_method_9_code 1 = .ok (.getfield 10, 3) := by decide +kernel
theorem d19_4 : decode prog_98_method_9_code 4 = .ok (.getfield 90, 3) := by decide +kernel
theorem d19_7 : decode prog_98_method_9_code 7 = .ok (.astore_n 1, 1) := by decide +kernel
theorem d19_8 : decode prog_98_method_9_code 8 = .ok (.aload_n 0, 1) := by decide +kernel
theorem d19_9 : decode prog_98_method_9_code 9 = .ok (.getfield 10, 3) := by decide +kernel
theorem d19_12 : decode prog_98_method_9_code 12 = .ok (.getfield 116, 3) := by decide +kernel
theorem d19_15 : decode prog_98_method_9_code 15 = .ok (.astore_n 2, 1) := by decide +kernel
theorem d19_16 : decode prog_98_method_9_code 16 = .ok (.aload_n 0, 1) := by decide +kernel
theorem d19_17 : decode prog_98_method_9_code 17 = .ok (.getfield 19, 3) := by decide +kernel
theorem d19_20 : decode prog_98_method_9_code 20 = .ok (.getfield 90, 3) := by decide +kernel
theorem d19_23 : decode prog_98_method_9_code 23 = .ok (.astore_n 3, 1) := by decide +kernel
theorem d19_24 : decode prog_98_method_9_code 24 = .ok (.aload_n 0, 1) := by decide +kernel
theorem d19_25 : decode prog_98_method_9_code 25 = .ok (.getfield 16, 3) := by decide +kernel
theorem d19_28 : decode prog_98_method_9_code 28 = .ok (.getfield 90, 3) := by decide +kernel
theorem d19_31 : decode prog_98_method_9_code 31 = .ok (.astore 4, 2) := by decide +kernel
theorem d19_33 : decode prog_98_method_9_code 33 = .ok (.aload_n 0, 1) := by decide +kernel
theorem d19_34 : decode prog_98_method_9_code 34 = .ok (.getfield 16, 3) := by decide +kernel
theorem d19_37 : decode prog_98_method_9_code 37 = .ok (.getfield 116, 3) := by decide +kernel
theorem d19_40 : decode prog_98_method_9_code 40 = .ok (.astore 5, 2) := by decide +kernel
theorem d19_42 : decode prog_98_method_9_code 42 = .ok (.aload_n 0, 1) := by decide +kernel
theorem d19_43 : decode prog_98_method_9_code 43 = .ok (.getfield 53, 3) := by decide +kernel
theorem d19_46 : decode prog_98_method_9_code 46 = .ok (.astore 6, 2) := by decide +kernel
theorem d19_48 : decode prog_98_method_9_code 48 = .ok (.aload_n 0, 1) := by decide +kernel
theorem d19_49 : decode prog_98_method_9_code 49 = .ok (.getfield 10, 3) := by decide +kernel
theorem d19_52 : decode prog_98_method_9_code 52 = .ok (.getfield 78, 3) := by decide +kernel
theorem d19_55 : decode prog_98_method_9_code 55 = .ok (.istore 7, 2) := by decide +kernel
theorem d19_57 : decode prog_98_method_9_code 57 = .ok (.aload_n 0, 1) := by decide +kernel
theorem d19_58 : decode prog_98_method_9_code 58 = .ok (.getfield 19, 3) := by decide +kernel
theorem d19_61 : decode prog_98_method_9_code 61 = .ok (.getfield 78, 3) := by decide +kernel
theorem d19_64 : decode prog_98_method_9_code 64 = .ok (.istore 8, 2) := by decide +kernel
theorem d19_66 : decode prog_98_method_9_code 66 = .ok (.aload_n 0, 1) := by decide +kernel
theorem d19_67 : decode prog_98_method_9_code 67 = .ok (.getfield 104, 3) := by decide +kernel
theorem d19_70 : decode prog_98_method_9_code 70 = .ok (.istore 9, 2) := by decide +kernel
theorem d19_72 : decode prog_98_method_9_code 72 = .ok (.aload_n 0, 1) := by decide +kernel
theorem d19_73 : decode prog_98_method_9_code 73 = .ok (.getfield 84, 3) := by decide +kernel
theorem d19_76 : decode prog_98_method_9_code 76 = .ok (.istore 10, 2) := by decide +kernel
theorem d19_78 : decode prog_98_method_9_code 78 = .ok (.aload_n 0, 1) := by decide +kernel
theorem d19_79 : decode prog_98_method_9_code 79 = .ok (.getfield 16, 3) := by decide +kernel
theorem d19_82 : decode prog_98_method_9_code 82 = .ok (.getfield 78, 3) := by decide +kernel
theorem d19_85 : decode prog_98_method_9_code 85 = .ok (.istore 11, 2) := by decide +kernel
theorem d19_87 : decode prog_98_method_9_code 87 = .ok (.iconst 0, 1) := by decide +kernel
theorem d19_88 : decode prog_98_method_9_code 88 = .ok (.istore 12, 2) := by decide +kernel
theorem d19_90 : decode prog_98_method_9_code 90 = .ok (.iload 12, 2) := by decide +kernel
theorem d19_92 : decode prog_98_method_9_code 92 = .ok (.bipush 64, 2) := by decide +kernel
theorem d19_94 : decode prog_98_method_9_code 94 = .ok (.if_icmp .ge 133, 3) := by decide +kernel
theorem d19_97 : decode prog_98_method_9_code 97 = .ok (.iload 9, 2) := by decide +kernel
theorem d19_99 : decode prog_98_method_9_code 99 = .ok (.iload 7, 2) := by decide +kernel
theorem d19_101 : decode prog_98_method_9_code 101 = .ok (.if_icmp .lt 10, 3) := by decide +kernel
theorem d19_104 : decode prog_98_method_9_code 104 = .ok (.iload 10, 2) := by decide +kernel
theorem d19_106 : decode prog_98_method_9_code 106 = .ok (.iload 8, 2) := by decide +kernel
theorem d19_108 : decode prog_98_method_9_code 108 = .ok (.if_icmp .ge 119, 3) := by decide +kernel
theorem d19_111 : decode prog_98_method_9_code 111 = .ok (.iload 10, 2) := by decide +kernel
theorem d19_113 : decode prog_98_method_9_code 113 = .ok (.iload 8, 2) := by decide +kernel
theorem d19_115 : decode prog_98_method_9_code 115 = .ok (.if_icmp .eq 22, 3) := by decide +kernel
theorem d19_118 : decode prog_98_method_9_code 118 = .ok (.iload 9, 2) := by decide +kernel
theorem d19_120 : decode prog_98_method_9_code 120 = .ok (.iload 7, 2) := by decide +kernel
theorem d19_122 : decode prog_98_method_9_code 122 = .ok (.if_icmp .ge 64, 3) := by decide +kernel
theorem d19_186 : decode prog_98_method_9_code 186 = .ok (.aload_n 3, 1) := by decide +kernel
theorem d19_187 : decode prog_98_method_9_code 187 = .ok (.iload 10, 2) := by decide +kernel
theorem d19_189 : decode prog_98_method_9_code 189 = .ok (.laload, 1) := by decide +kernel
theorem d19_190 : decode prog_98_method_9_code 190 = .ok (.lstore 13, 2) := by decide +kernel
theorem d19_192 : decode prog_98_method_9_code 192 = .ok (.aload 4, 2) := by decide +kernel
theorem d19_194 : decode prog_98_method_9_code 194 = .ok (.iload 11, 2) := by decide +kernel
theorem d19_196 : decode prog_98_method_9_code 196 = .ok (.lload 13, 2) := by decide +kernel
theorem d19_198 : decode prog_98_method_9_code 198 = .ok (.lastore, 1) := by decide +kernel
theorem own_w_l20 {Z : State} {a0 : Array Value} (hw : ∀ d ∈ tables_1, d.before a0 Z = true) {h h' : Heap} {n0 : Nat} {ad : Nat → Addr} {v_rn v_mg : Addr} {v_ra v_fa v_fk v_an v_at v_c1 v_c2 v_c3 v_i10 v_i11 v_i12 v_i20 v_i21 v_i22 v_i30 v_i31 v_i32 v_k0 v_k1 v_k2 : Int32} {v_nx v_l10 v_l11 v_l12 v_l20 v_l21 v_l22 v_l30 v_l31 v_l32 : Int64} {v : Int64} (H : own_H Z h n0 ad v_rn v_mg v_ra v_fa v_fk v_an v_at v_nx v_c1 v_c2 v_c3 v_l10 v_l11 v_l12 v_l20 v_l21 v_l22 v_l30 v_l31 v_l32 v_i10 v_i11 v_i12 v_i20 v_i21 v_i22 v_i30 v_i31 v_i32 v_k0 v_k1 v_k2) (W : Wr h h' (ad 5) (0 : Int32).toNatClampNeg (.long v)) : own_H Z h' n0 ad v_rn v_mg v_ra v_fa v_fk v_an v_at v_nx v_c1 v_c2 v_c3 v_l10 v_l11 v_l12 v v_l21 v_l22 v_l30 v_l31 v_l32 v_i10 v_i11 v_i12 v_i20 v_i21 v_i22 v_i30 v_i31 v_i32 v_k0 v_k1 v_k2 := by
  obtain ⟨hinj, hge, E0, E1, E2, E3, r_run, r_merged, r_fresh, r_serverBits, r_freeBits, r_serverMask, r_mostFree, r_mostSpend, r_runAt, r_freshAt, r_freshKept, r_ranking, r_rankedAnew, r_at, r_next, u1_rank, u1_ranking, u1_count, u2_rank, u2_ranking, u2_count, u3_rank, u3_ranking, u3_count, a_l1, a_l2, a_l3, a_i1, a_i2, a_i3, a_k⟩ := H
  exact ⟨hinj, hge, E0.wr W, E1.wr W, E2.wr W, E3.wr W, r_run.other W (Or.inl (on hinj 0 5 rfl)), r_merged.other W (Or.inl (on hinj 0 5 rfl)), r_fresh.other W (Or.inl (on hinj 0 5 rfl)), r_serverBits.other W (Or.inl (on hinj 0 5 rfl)), r_freeBits.other W (Or.inl (on hinj 0 5 rfl)), r_serverMask.other W (Or.inl (on hinj 0 5 rfl)), r_mostFree.other W (Or.inl (on hinj 0 5 rfl)), r_mostSpend.other W (Or.inl (on hinj 0 5 rfl)), r_runAt.other W (Or.inl (on hinj 0 5 rfl)), r_freshAt.other W (Or.inl (on hinj 0 5 rfl)), r_freshKept.other W (Or.inl (on hinj 0 5 rfl)), r_ranking.other W (Or.inl (on hinj 0 5 rfl)), r_rankedAnew.other W (Or.inl (on hinj 0 5 rfl)), r_at.other W (Or.inl (on hinj 0 5 rfl)), r_next.other W (Or.inl (on hinj 0 5 rfl)), u1_rank.other W (Or.inl (on hinj 1 5 rfl)), u1_ranking.other W (Or.inl (on hinj 1 5 rfl)), u1_count.other W (Or.inl (on hinj 1 5 rfl)), u2_rank.other W (Or.inl (on hinj 2 5 rfl)), u2_ranking.other W (Or.inl (on hinj 2 5 rfl)), u2_count.other W (Or.inl (on hinj 2 5 rfl)), u3_rank.other W (Or.inl (on hinj 3 5 rfl)), u3_ranking.other W (Or.inl (on hinj 3 5 rfl)), u3_count.other W (Or.inl (on hinj 3 5 rfl)), a_l1.other W (on hinj 4 5 rfl), own_setJ0 (a_l2.set W), a_l3.other W (on hinj 6 5 rfl), a_i1.other W (on hinj 7 5 rfl), a_i2.other W (on hinj 8 5 rfl), a_i3.other W (on hinj 9 5 rfl), a_k.other W (on hinj 10 5 rfl)⟩
theorem d19_199 : decode prog_98_method_9_code 199 = .ok (.aload 5, 2) := by decide +kernel
theorem d19_201 : decode prog_98_method_9_code 201 = .ok (.iload 11, 2) := by decide +kernel
theorem d19_203 : decode prog_98_method_9_code 203 = .ok (.iinc 11 1, 3) := by decide +kernel
theorem d19_206 : decode prog_98_method_9_code 206 = .ok (.aload 6, 2) := by decide +kernel
theorem d19_208 : decode prog_98_method_9_code 208 = .ok (.lload 13, 2) := by decide +kernel
theorem d19_210 : decode prog_98_method_9_code 210 = .ok (.aload_n 0, 1) := by decide +kernel
theorem d19_211 : decode prog_98_method_9_code 211 = .ok (.getfield 43, 3) := by decide +kernel
theorem d19_214 : decode prog_98_method_9_code 214 = .ok (.land, 1) := by decide +kernel
theorem d19_215 : decode prog_98_method_9_code 215 = .ok (.l2i, 1) := by decide +kernel
theorem d19_216 : decode prog_98_method_9_code 216 = .ok (.iaload, 1) := by decide +kernel
theorem d19_217 : decode prog_98_method_9_code 217 = .ok (.iastore, 1) := by decide +kernel
theorem own_w_i20 {Z : State} {a0 : Array Value} (hw : ∀ d ∈ tables_1, d.before a0 Z = true) {h h' : Heap} {n0 : Nat} {ad : Nat → Addr} {v_rn v_mg : Addr} {v_ra v_fa v_fk v_an v_at v_c1 v_c2 v_c3 v_i10 v_i11 v_i12 v_i20 v_i21 v_i22 v_i30 v_i31 v_i32 v_k0 v_k1 v_k2 : Int32} {v_nx v_l10 v_l11 v_l12 v_l20 v_l21 v_l22 v_l30 v_l31 v_l32 : Int64} {v : Int32} (H : own_H Z h n0 ad v_rn v_mg v_ra v_fa v_fk v_an v_at v_nx v_c1 v_c2 v_c3 v_l10 v_l11 v_l12 v_l20 v_l21 v_l22 v_l30 v_l31 v_l32 v_i10 v_i11 v_i12 v_i20 v_i21 v_i22 v_i30 v_i31 v_i32 v_k0 v_k1 v_k2) (W : Wr h h' (ad 8) (0 : Int32).toNatClampNeg (.int v)) : own_H Z h' n0 ad v_rn v_mg v_ra v_fa v_fk v_an v_at v_nx v_c1 v_c2 v_c3 v_l10 v_l11 v_l12 v_l20 v_l21 v_l22 v_l30 v_l31 v_l32 v_i10 v_i11 v_i12 v v_i21 v_i22 v_i30 v_i31 v_i32 v_k0 v_k1 v_k2 := by
  obtain ⟨hinj, hge, E0, E1, E2, E3, r_run, r_merged, r_fresh, r_serverBits, r_freeBits, r_serverMask, r_mostFree, r_mostSpend, r_runAt, r_freshAt, r_freshKept, r_ranking, r_rankedAnew, r_at, r_next, u1_rank, u1_ranking, u1_count, u2_rank, u2_ranking, u2_count, u3_rank, u3_ranking, u3_count, a_l1, a_l2, a_l3, a_i1, a_i2, a_i3, a_k⟩ := H
  exact ⟨hinj, hge, E0.wr W, E1.wr W, E2.wr W, E3.wr W, r_run.other W (Or.inl (on hinj 0 8 rfl)), r_merged.other W (Or.inl (on hinj 0 8 rfl)), r_fresh.other W (Or.inl (on hinj 0 8 rfl)), r_serverBits.other W (Or.inl (on hinj 0 8 rfl)), r_freeBits.other W (Or.inl (on hinj 0 8 rfl)), r_serverMask.other W (Or.inl (on hinj 0 8 rfl)), r_mostFree.other W (Or.inl (on hinj 0 8 rfl)), r_mostSpend.other W (Or.inl (on hinj 0 8 rfl)), r_runAt.other W (Or.inl (on hinj 0 8 rfl)), r_freshAt.other W (Or.inl (on hinj 0 8 rfl)), r_freshKept.other W (Or.inl (on hinj 0 8 rfl)), r_ranking.other W (Or.inl (on hinj 0 8 rfl)), r_rankedAnew.other W (Or.inl (on hinj 0 8 rfl)), r_at.other W (Or.inl (on hinj 0 8 rfl)), r_next.other W (Or.inl (on hinj 0 8 rfl)), u1_rank.other W (Or.inl (on hinj 1 8 rfl)), u1_ranking.other W (Or.inl (on hinj 1 8 rfl)), u1_count.other W (Or.inl (on hinj 1 8 rfl)), u2_rank.other W (Or.inl (on hinj 2 8 rfl)), u2_ranking.other W (Or.inl (on hinj 2 8 rfl)), u2_count.other W (Or.inl (on hinj 2 8 rfl)), u3_rank.other W (Or.inl (on hinj 3 8 rfl)), u3_ranking.other W (Or.inl (on hinj 3 8 rfl)), u3_count.other W (Or.inl (on hinj 3 8 rfl)), a_l1.other W (on hinj 4 8 rfl), a_l2.other W (on hinj 5 8 rfl), a_l3.other W (on hinj 6 8 rfl), a_i1.other W (on hinj 7 8 rfl), own_setI0 (a_i2.set W), a_i3.other W (on hinj 9 8 rfl), a_k.other W (on hinj 10 8 rfl)⟩
theorem d19_218 : decode prog_98_method_9_code 218 = .ok (.iinc 10 1, 3) := by decide +kernel
theorem d19_221 : decode prog_98_method_9_code 221 = .ok (.iinc 12 1, 3) := by decide +kernel
theorem d19_224 : decode prog_98_method_9_code 224 = .ok (.goto (-134), 3) := by decide +kernel
theorem own_w_l21 {Z : State} {a0 : Array Value} (hw : ∀ d ∈ tables_1, d.before a0 Z = true) {h h' : Heap} {n0 : Nat} {ad : Nat → Addr} {v_rn v_mg : Addr} {v_ra v_fa v_fk v_an v_at v_c1 v_c2 v_c3 v_i10 v_i11 v_i12 v_i20 v_i21 v_i22 v_i30 v_i31 v_i32 v_k0 v_k1 v_k2 : Int32} {v_nx v_l10 v_l11 v_l12 v_l20 v_l21 v_l22 v_l30 v_l31 v_l32 : Int64} {v : Int64} (H : own_H Z h n0 ad v_rn v_mg v_ra v_fa v_fk v_an v_at v_nx v_c1 v_c2 v_c3 v_l10 v_l11 v_l12 v_l20 v_l21 v_l22 v_l30 v_l31 v_l32 v_i10 v_i11 v_i12 v_i20 v_i21 v_i22 v_i30 v_i31 v_i32 v_k0 v_k1 v_k2) (W : Wr h h' (ad 5) (1 : Int32).toNatClampNeg (.long v)) : own_H Z h' n0 ad v_rn v_mg v_ra v_fa v_fk v_an v_at v_nx v_c1 v_c2 v_c3 v_l10 v_l11 v_l12 v_l20 v v_l22 v_l30 v_l31 v_l32 v_i10 v_i11 v_i12 v_i20 v_i21 v_i22 v_i30 v_i31 v_i32 v_k0 v_k1 v_k2 := by
  obtain ⟨hinj, hge, E0, E1, E2, E3, r_run, r_merged, r_fresh, r_serverBits, r_freeBits, r_serverMask, r_mostFree, r_mostSpend, r_runAt, r_freshAt, r_freshKept, r_ranking, r_rankedAnew, r_at, r_next, u1_rank, u1_ranking, u1_count, u2_rank, u2_ranking, u2_count, u3_rank, u3_ranking, u3_count, a_l1, a_l2, a_l3, a_i1, a_i2, a_i3, a_k⟩ := H
  exact ⟨hinj, hge, E0.wr W, E1.wr W, E2.wr W, E3.wr W, r_run.other W (Or.inl (on hinj 0 5 rfl)), r_merged.other W (Or.inl (on hinj 0 5 rfl)), r_fresh.other W (Or.inl (on hinj 0 5 rfl)), r_serverBits.other W (Or.inl (on hinj 0 5 rfl)), r_freeBits.other W (Or.inl (on hinj 0 5 rfl)), r_serverMask.other W (Or.inl (on hinj 0 5 rfl)), r_mostFree.other W (Or.inl (on hinj 0 5 rfl)), r_mostSpend.other W (Or.inl (on hinj 0 5 rfl)), r_runAt.other W (Or.inl (on hinj 0 5 rfl)), r_freshAt.other W (Or.inl (on hinj 0 5 rfl)), r_freshKept.other W (Or.inl (on hinj 0 5 rfl)), r_ranking.other W (Or.inl (on hinj 0 5 rfl)), r_rankedAnew.other W (Or.inl (on hinj 0 5 rfl)), r_at.other W (Or.inl (on hinj 0 5 rfl)), r_next.other W (Or.inl (on hinj 0 5 rfl)), u1_rank.other W (Or.inl (on hinj 1 5 rfl)), u1_ranking.other W (Or.inl (on hinj 1 5 rfl)), u1_count.other W (Or.inl (on hinj 1 5 rfl)), u2_rank.other W (Or.inl (on hinj 2 5 rfl)), u2_ranking.other W (Or.inl (on hinj 2 5 rfl)), u2_count.other W (Or.inl (on hinj 2 5 rfl)), u3_rank.other W (Or.inl (on hinj 3 5 rfl)), u3_ranking.other W (Or.inl (on hinj 3 5 rfl)), u3_count.other W (Or.inl (on hinj 3 5 rfl)), a_l1.other W (on hinj 4 5 rfl), own_setJ1 (a_l2.set W), a_l3.other W (on hinj 6 5 rfl), a_i1.other W (on hinj 7 5 rfl), a_i2.other W (on hinj 8 5 rfl), a_i3.other W (on hinj 9 5 rfl), a_k.other W (on hinj 10 5 rfl)⟩
theorem own_w_i21 {Z : State} {a0 : Array Value} (hw : ∀ d ∈ tables_1, d.before a0 Z = true) {h h' : Heap} {n0 : Nat} {ad : Nat → Addr} {v_rn v_mg : Addr} {v_ra v_fa v_fk v_an v_at v_c1 v_c2 v_c3 v_i10 v_i11 v_i12 v_i20 v_i21 v_i22 v_i30 v_i31 v_i32 v_k0 v_k1 v_k2 : Int32} {v_nx v_l10 v_l11 v_l12 v_l20 v_l21 v_l22 v_l30 v_l31 v_l32 : Int64} {v : Int32} (H : own_H Z h n0 ad v_rn v_mg v_ra v_fa v_fk v_an v_at v_nx v_c1 v_c2 v_c3 v_l10 v_l11 v_l12 v_l20 v_l21 v_l22 v_l30 v_l31 v_l32 v_i10 v_i11 v_i12 v_i20 v_i21 v_i22 v_i30 v_i31 v_i32 v_k0 v_k1 v_k2) (W : Wr h h' (ad 8) (1 : Int32).toNatClampNeg (.int v)) : own_H Z h' n0 ad v_rn v_mg v_ra v_fa v_fk v_an v_at v_nx v_c1 v_c2 v_c3 v_l10 v_l11 v_l12 v_l20 v_l21 v_l22 v_l30 v_l31 v_l32 v_i10 v_i11 v_i12 v_i20 v v_i22 v_i30 v_i31 v_i32 v_k0 v_k1 v_k2 := by
  obtain ⟨hinj, hge, E0, E1, E2, E3, r_run, r_merged, r_fresh, r_serverBits, r_freeBits, r_serverMask, r_mostFree, r_mostSpend, r_runAt, r_freshAt, r_freshKept, r_ranking, r_rankedAnew, r_at, r_next, u1_rank, u1_ranking, u1_count, u2_rank, u2_ranking, u2_count, u3_rank, u3_ranking, u3_count, a_l1, a_l2, a_l3, a_i1, a_i2, a_i3, a_k⟩ := H
  exact ⟨hinj, hge, E0.wr W, E1.wr W, E2.wr W, E3.wr W, r_run.other W (Or.inl (on hinj 0 8 rfl)), r_merged.other W (Or.inl (on hinj 0 8 rfl)), r_fresh.other W (Or.inl (on hinj 0 8 rfl)), r_serverBits.other W (Or.inl (on hinj 0 8 rfl)), r_freeBits.other W (Or.inl (on hinj 0 8 rfl)), r_serverMask.other W (Or.inl (on hinj 0 8 rfl)), r_mostFree.other W (Or.inl (on hinj 0 8 rfl)), r_mostSpend.other W (Or.inl (on hinj 0 8 rfl)), r_runAt.other W (Or.inl (on hinj 0 8 rfl)), r_freshAt.other W (Or.inl (on hinj 0 8 rfl)), r_freshKept.other W (Or.inl (on hinj 0 8 rfl)), r_ranking.other W (Or.inl (on hinj 0 8 rfl)), r_rankedAnew.other W (Or.inl (on hinj 0 8 rfl)), r_at.other W (Or.inl (on hinj 0 8 rfl)), r_next.other W (Or.inl (on hinj 0 8 rfl)), u1_rank.other W (Or.inl (on hinj 1 8 rfl)), u1_ranking.other W (Or.inl (on hinj 1 8 rfl)), u1_count.other W (Or.inl (on hinj 1 8 rfl)), u2_rank.other W (Or.inl (on hinj 2 8 rfl)), u2_ranking.other W (Or.inl (on hinj 2 8 rfl)), u2_count.other W (Or.inl (on hinj 2 8 rfl)), u3_rank.other W (Or.inl (on hinj 3 8 rfl)), u3_ranking.other W (Or.inl (on hinj 3 8 rfl)), u3_count.other W (Or.inl (on hinj 3 8 rfl)), a_l1.other W (on hinj 4 8 rfl), a_l2.other W (on hinj 5 8 rfl), a_l3.other W (on hinj 6 8 rfl), a_i1.other W (on hinj 7 8 rfl), own_setI1 (a_i2.set W), a_i3.other W (on hinj 9 8 rfl), a_k.other W (on hinj 10 8 rfl)⟩
theorem own_w_l22 {Z : State} {a0 : Array Value} (hw : ∀ d ∈ tables_1, d.before a0 Z = true) {h h' : Heap} {n0 : Nat} {ad : Nat → Addr} {v_rn v_mg : Addr} {v_ra v_fa v_fk v_an v_at v_c1 v_c2 v_c3 v_i10 v_i11 v_i12 v_i20 v_i21 v_i22 v_i30 v_i31 v_i32 v_k0 v_k1 v_k2 : Int32} {v_nx v_l10 v_l11 v_l12 v_l20 v_l21 v_l22 v_l30 v_l31 v_l32 : Int64} {v : Int64} (H : own_H Z h n0 ad v_rn v_mg v_ra v_fa v_fk v_an v_at v_nx v_c1 v_c2 v_c3 v_l10 v_l11 v_l12 v_l20 v_l21 v_l22 v_l30 v_l31 v_l32 v_i10 v_i11 v_i12 v_i20 v_i21 v_i22 v_i30 v_i31 v_i32 v_k0 v_k1 v_k2) (W : Wr h h' (ad 5) (2 : Int32).toNatClampNeg (.long v)) : own_H Z h' n0 ad v_rn v_mg v_ra v_fa v_fk v_an v_at v_nx v_c1 v_c2 v_c3 v_l10 v_l11 v_l12 v_l20 v_l21 v v_l30 v_l31 v_l32 v_i10 v_i11 v_i12 v_i20 v_i21 v_i22 v_i30 v_i31 v_i32 v_k0 v_k1 v_k2 := by
  obtain ⟨hinj, hge, E0, E1, E2, E3, r_run, r_merged, r_fresh, r_serverBits, r_freeBits, r_serverMask, r_mostFree, r_mostSpend, r_runAt, r_freshAt, r_freshKept, r_ranking, r_rankedAnew, r_at, r_next, u1_rank, u1_ranking, u1_count, u2_rank, u2_ranking, u2_count, u3_rank, u3_ranking, u3_count, a_l1, a_l2, a_l3, a_i1, a_i2, a_i3, a_k⟩ := H
  exact ⟨hinj, hge, E0.wr W, E1.wr W, E2.wr W, E3.wr W, r_run.other W (Or.inl (on hinj 0 5 rfl)), r_merged.other W (Or.inl (on hinj 0 5 rfl)), r_fresh.other W (Or.inl (on hinj 0 5 rfl)), r_serverBits.other W (Or.inl (on hinj 0 5 rfl)), r_freeBits.other W (Or.inl (on hinj 0 5 rfl)), r_serverMask.other W (Or.inl (on hinj 0 5 rfl)), r_mostFree.other W (Or.inl (on hinj 0 5 rfl)), r_mostSpend.other W (Or.inl (on hinj 0 5 rfl)), r_runAt.other W (Or.inl (on hinj 0 5 rfl)), r_freshAt.other W (Or.inl (on hinj 0 5 rfl)), r_freshKept.other W (Or.inl (on hinj 0 5 rfl)), r_ranking.other W (Or.inl (on hinj 0 5 rfl)), r_rankedAnew.other W (Or.inl (on hinj 0 5 rfl)), r_at.other W (Or.inl (on hinj 0 5 rfl)), r_next.other W (Or.inl (on hinj 0 5 rfl)), u1_rank.other W (Or.inl (on hinj 1 5 rfl)), u1_ranking.other W (Or.inl (on hinj 1 5 rfl)), u1_count.other W (Or.inl (on hinj 1 5 rfl)), u2_rank.other W (Or.inl (on hinj 2 5 rfl)), u2_ranking.other W (Or.inl (on hinj 2 5 rfl)), u2_count.other W (Or.inl (on hinj 2 5 rfl)), u3_rank.other W (Or.inl (on hinj 3 5 rfl)), u3_ranking.other W (Or.inl (on hinj 3 5 rfl)), u3_count.other W (Or.inl (on hinj 3 5 rfl)), a_l1.other W (on hinj 4 5 rfl), own_setJ2 (a_l2.set W), a_l3.other W (on hinj 6 5 rfl), a_i1.other W (on hinj 7 5 rfl), a_i2.other W (on hinj 8 5 rfl), a_i3.other W (on hinj 9 5 rfl), a_k.other W (on hinj 10 5 rfl)⟩
theorem own_w_i22 {Z : State} {a0 : Array Value} (hw : ∀ d ∈ tables_1, d.before a0 Z = true) {h h' : Heap} {n0 : Nat} {ad : Nat → Addr} {v_rn v_mg : Addr} {v_ra v_fa v_fk v_an v_at v_c1 v_c2 v_c3 v_i10 v_i11 v_i12 v_i20 v_i21 v_i22 v_i30 v_i31 v_i32 v_k0 v_k1 v_k2 : Int32} {v_nx v_l10 v_l11 v_l12 v_l20 v_l21 v_l22 v_l30 v_l31 v_l32 : Int64} {v : Int32} (H : own_H Z h n0 ad v_rn v_mg v_ra v_fa v_fk v_an v_at v_nx v_c1 v_c2 v_c3 v_l10 v_l11 v_l12 v_l20 v_l21 v_l22 v_l30 v_l31 v_l32 v_i10 v_i11 v_i12 v_i20 v_i21 v_i22 v_i30 v_i31 v_i32 v_k0 v_k1 v_k2) (W : Wr h h' (ad 8) (2 : Int32).toNatClampNeg (.int v)) : own_H Z h' n0 ad v_rn v_mg v_ra v_fa v_fk v_an v_at v_nx v_c1 v_c2 v_c3 v_l10 v_l11 v_l12 v_l20 v_l21 v_l22 v_l30 v_l31 v_l32 v_i10 v_i11 v_i12 v_i20 v_i21 v v_i30 v_i31 v_i32 v_k0 v_k1 v_k2 := by
  obtain ⟨hinj, hge, E0, E1, E2, E3, r_run, r_merged, r_fresh, r_serverBits, r_freeBits, r_serverMask, r_mostFree, r_mostSpend, r_runAt, r_freshAt, r_freshKept, r_ranking, r_rankedAnew, r_at, r_next, u1_rank, u1_ranking, u1_count, u2_rank, u2_ranking, u2_count, u3_rank, u3_ranking, u3_count, a_l1, a_l2, a_l3, a_i1, a_i2, a_i3, a_k⟩ := H
  exact ⟨hinj, hge, E0.wr W, E1.wr W, E2.wr W, E3.wr W, r_run.other W (Or.inl (on hinj 0 8 rfl)), r_merged.other W (Or.inl (on hinj 0 8 rfl)), r_fresh.other W (Or.inl (on hinj 0 8 rfl)), r_serverBits.other W (Or.inl (on hinj 0 8 rfl)), r_freeBits.other W (Or.inl (on hinj 0 8 rfl)), r_serverMask.other W (Or.inl (on hinj 0 8 rfl)), r_mostFree.other W (Or.inl (on hinj 0 8 rfl)), r_mostSpend.other W (Or.inl (on hinj 0 8 rfl)), r_runAt.other W (Or.inl (on hinj 0 8 rfl)), r_freshAt.other W (Or.inl (on hinj 0 8 rfl)), r_freshKept.other W (Or.inl (on hinj 0 8 rfl)), r_ranking.other W (Or.inl (on hinj 0 8 rfl)), r_rankedAnew.other W (Or.inl (on hinj 0 8 rfl)), r_at.other W (Or.inl (on hinj 0 8 rfl)), r_next.other W (Or.inl (on hinj 0 8 rfl)), u1_rank.other W (Or.inl (on hinj 1 8 rfl)), u1_ranking.other W (Or.inl (on hinj 1 8 rfl)), u1_count.other W (Or.inl (on hinj 1 8 rfl)), u2_rank.other W (Or.inl (on hinj 2 8 rfl)), u2_ranking.other W (Or.inl (on hinj 2 8 rfl)), u2_count.other W (Or.inl (on hinj 2 8 rfl)), u3_rank.other W (Or.inl (on hinj 3 8 rfl)), u3_ranking.other W (Or.inl (on hinj 3 8 rfl)), u3_count.other W (Or.inl (on hinj 3 8 rfl)), a_l1.other W (on hinj 4 8 rfl), a_l2.other W (on hinj 5 8 rfl), a_l3.other W (on hinj 6 8 rfl), a_i1.other W (on hinj 7 8 rfl), own_setI2 (a_i2.set W), a_i3.other W (on hinj 9 8 rfl), a_k.other W (on hinj 10 8 rfl)⟩
theorem d19_227 : decode prog_98_method_9_code 227 = .ok (.aload_n 0, 1) := by decide +kernel
theorem d19_228 : decode prog_98_method_9_code 228 = .ok (.iload 9, 2) := by decide +kernel
theorem d19_230 : decode prog_98_method_9_code 230 = .ok (.putfield 104, 3) := by decide +kernel
theorem own_w_ra {Z : State} {a0 : Array Value} (hw : ∀ d ∈ tables_1, d.before a0 Z = true) {h h' : Heap} {n0 : Nat} {ad : Nat → Addr} {v_rn v_mg : Addr} {v_ra v_fa v_fk v_an v_at v_c1 v_c2 v_c3 v_i10 v_i11 v_i12 v_i20 v_i21 v_i22 v_i30 v_i31 v_i32 v_k0 v_k1 v_k2 : Int32} {v_nx v_l10 v_l11 v_l12 v_l20 v_l21 v_l22 v_l30 v_l31 v_l32 : Int64} {v : Int32} (H : own_H Z h n0 ad v_rn v_mg v_ra v_fa v_fk v_an v_at v_nx v_c1 v_c2 v_c3 v_l10 v_l11 v_l12 v_l20 v_l21 v_l22 v_l30 v_l31 v_l32 v_i10 v_i11 v_i12 v_i20 v_i21 v_i22 v_i30 v_i31 v_i32 v_k0 v_k1 v_k2) (W : Wr h h' (ad 0) (Jvm.RoadKit.slotOf Z "com/example/nearfield/nearfield/job/RankedReads" "runAt" "I") (.int v)) : own_H Z h' n0 ad v_rn v_mg v v_fa v_fk v_an v_at v_nx v_c1 v_c2 v_c3 v_l10 v_l11 v_l12 v_l20 v_l21 v_l22 v_l30 v_l31 v_l32 v_i10 v_i11 v_i12 v_i20 v_i21 v_i22 v_i30 v_i31 v_i32 v_k0 v_k1 v_k2 := by
  obtain ⟨hinj, hge, E0, E1, E2, E3, r_run, r_merged, r_fresh, r_serverBits, r_freeBits, r_serverMask, r_mostFree, r_mostSpend, r_runAt, r_freshAt, r_freshKept, r_ranking, r_rankedAnew, r_at, r_next, u1_rank, u1_ranking, u1_count, u2_rank, u2_ranking, u2_count, u3_rank, u3_ranking, u3_count, a_l1, a_l2, a_l3, a_i1, a_i2, a_i3, a_k⟩ := H
  exact ⟨hinj, hge, E0.wr W, E1.wr W, E2.wr W, E3.wr W, r_run.other W (Or.inr (slot_ne (Or.inl (ow hw 25 rfl)) (Or.inl (ow hw 117 rfl)) (by decide) (t := (.object "com/example/nearfield/nearfield/job/RankedReads$Run")) (t' := .int) (by decide) (by decide))), r_merged.other W (Or.inr (slot_ne (Or.inl (ow hw 27 rfl)) (Or.inl (ow hw 117 rfl)) (by decide) (t := (.object "com/example/nearfield/nearfield/job/RankedReads$Run")) (t' := .int) (by decide) (by decide))), r_fresh.other W (Or.inr (slot_ne (Or.inr (ow hw 29 rfl)) (Or.inl (ow hw 117 rfl)) (by decide) (t := (.object "com/example/nearfield/nearfield/job/RankedReads$Run")) (t' := .int) (by decide) (by decide))), r_serverBits.other W (Or.inr (slot_ne (Or.inr (ow hw 40 rfl)) (Or.inl (ow hw 117 rfl)) (by decide) (t := .int) (t' := .int) (by decide) (by decide))), r_freeBits.other W (Or.inr (slot_ne (Or.inr (ow hw 42 rfl)) (Or.inl (ow hw 117 rfl)) (by decide) (t := .int) (t' := .int) (by decide) (by decide))), r_serverMask.other W (Or.inr (slot_ne (Or.inr (ow hw 44 rfl)) (Or.inl (ow hw 117 rfl)) (by decide) (t := .long) (t' := .int) (by decide) (by decide))), r_mostFree.other W (Or.inr (slot_ne (Or.inr (ow hw 46 rfl)) (Or.inl (ow hw 117 rfl)) (by decide) (t := .long) (t' := .int) (by decide) (by decide))), r_mostSpend.other W (Or.inr (slot_ne (Or.inr (ow hw 48 rfl)) (Or.inl (ow hw 117 rfl)) (by decide) (t := .long) (t' := .int) (by decide) (by decide))), r_runAt.same W, r_freshAt.other W (Or.inr (slot_ne (Or.inl (ow hw 82 rfl)) (Or.inl (ow hw 117 rfl)) (by decide) (t := .int) (t' := .int) (by decide) (by decide))), r_freshKept.other W (Or.inr (slot_ne (Or.inl (ow hw 80 rfl)) (Or.inl (ow hw 117 rfl)) (by decide) (t := .int) (t' := .int) (by decide) (by decide))), r_ranking.other W (Or.inr (slot_ne (Or.inr (ow hw 50 rfl)) (Or.inl (ow hw 117 rfl)) (by decide) (t := (.array .int)) (t' := .int) (by decide) (by decide))), r_rankedAnew.other W (Or.inr (slot_ne (Or.inl (ow hw 123 rfl)) (Or.inl (ow hw 117 rfl)) (by decide) (t := .boolean) (t' := .int) (by decide) (by decide))), r_at.other W (Or.inr (slot_ne (Or.inl (ow hw 125 rfl)) (Or.inl (ow hw 117 rfl)) (by decide) (t := .int) (t' := .int) (by decide) (by decide))), r_next.other W (Or.inr (slot_ne (Or.inl (ow hw 132 rfl)) (Or.inl (ow hw 117 rfl)) (by decide) (t := .long) (t' := .int) (by decide) (by decide))), u1_rank.other W (Or.inl (on hinj 1 0 rfl)), u1_ranking.other W (Or.inl (on hinj 1 0 rfl)), u1_count.other W (Or.inl (on hinj 1 0 rfl)), u2_rank.other W (Or.inl (on hinj 2 0 rfl)), u2_ranking.other W (Or.inl (on hinj 2 0 rfl)), u2_count.other W (Or.inl (on hinj 2 0 rfl)), u3_rank.other W (Or.inl (on hinj 3 0 rfl)), u3_ranking.other W (Or.inl (on hinj 3 0 rfl)), u3_count.other W (Or.inl (on hinj 3 0 rfl)), a_l1.other W (on hinj 4 0 rfl), a_l2.other W (on hinj 5 0 rfl), a_l3.other W (on hinj 6 0 rfl), a_i1.other W (on hinj 7 0 rfl), a_i2.other W (on hinj 8 0 rfl), a_i3.other W (on hinj 9 0 rfl), a_k.other W (on hinj 10 0 rfl)⟩
theorem d19_233 : decode prog_98_method_9_code 233 = .ok (.aload_n 0, 1) := by decide +kernel
theorem d19_234 : decode prog_98_method_9_code 234 = .ok (.iload 10, 2) := by decide +kernel
theorem d19_236 : decode prog_98_method_9_code 236 = .ok (.putfield 84, 3) := by decide +kernel
theorem own_w_fa {Z : State} {a0 : Array Value} (hw : ∀ d ∈ tables_1, d.before a0 Z = true) {h h' : Heap} {n0 : Nat} {ad : Nat → Addr} {v_rn v_mg : Addr} {v_ra v_fa v_fk v_an v_at v_c1 v_c2 v_c3 v_i10 v_i11 v_i12 v_i20 v_i21 v_i22 v_i30 v_i31 v_i32 v_k0 v_k1 v_k2 : Int32} {v_nx v_l10 v_l11 v_l12 v_l20 v_l21 v_l22 v_l30 v_l31 v_l32 : Int64} {v : Int32} (H : own_H Z h n0 ad v_rn v_mg v_ra v_fa v_fk v_an v_at v_nx v_c1 v_c2 v_c3 v_l10 v_l11 v_l12 v_l20 v_l21 v_l22 v_l30 v_l31 v_l32 v_i10 v_i11 v_i12 v_i20 v_i21 v_i22 v_i30 v_i31 v_i32 v_k0 v_k1 v_k2) (W : Wr h h' (ad 0) (Jvm.RoadKit.slotOf Z "com/example/nearfield/nearfield/job/RankedReads" "freshAt" "I") (.int v)) : own_H Z h' n0 ad v_rn v_mg v_ra v v_fk v_an v_at v_nx v_c1 v_c2 v_c3 v_l10 v_l11 v_l12 v_l20 v_l21 v_l22 v_l30 v_l31 v_l32 v_i10 v_i11 v_i12 v_i20 v_i21 v_i22 v_i30 v_i31 v_i32 v_k0 v_k1 v_k2 := by
  obtain ⟨hinj, hge, E0, E1, E2, E3, r_run, r_merged, r_fresh, r_serverBits, r_freeBits, r_serverMask, r_mostFree, r_mostSpend, r_runAt, r_freshAt, r_freshKept, r_ranking, r_rankedAnew, r_at, r_next, u1_rank, u1_ranking, u1_count, u2_rank, u2_ranking, u2_count, u3_rank, u3_ranking, u3_count, a_l1, a_l2, a_l3, a_i1, a_i2, a_i3, a_k⟩ := H
  exact ⟨hinj, hge, E0.wr W, E1.wr W, E2.wr W, E3.wr W, r_run.other W (Or.inr (slot_ne (Or.inl (ow hw 25 rfl)) (Or.inl (ow hw 82 rfl)) (by decide) (t := (.object "com/example/nearfield/nearfield/job/RankedReads$Run")) (t' := .int) (by decide) (by decide))), r_merged.other W (Or.inr (slot_ne (Or.inl (ow hw 27 rfl)) (Or.inl (ow hw 82 rfl)) (by decide) (t := (.object "com/example/nearfield/nearfield/job/RankedReads$Run")) (t' := .int) (by decide) (by decide))), r_fresh.other W (Or.inr (slot_ne (Or.inr (ow hw 29 rfl)) (Or.inl (ow hw 82 rfl)) (by decide) (t := (.object "com/example/nearfield/nearfield/job/RankedReads$Run")) (t' := .int) (by decide) (by decide))), r_serverBits.other W (Or.inr (slot_ne (Or.inr (ow hw 40 rfl)) (Or.inl (ow hw 82 rfl)) (by decide) (t := .int) (t' := .int) (by decide) (by decide))), r_freeBits.other W (Or.inr (slot_ne (Or.inr (ow hw 42 rfl)) (Or.inl (ow hw 82 rfl)) (by decide) (t := .int) (t' := .int) (by decide) (by decide))), r_serverMask.other W (Or.inr (slot_ne (Or.inr (ow hw 44 rfl)) (Or.inl (ow hw 82 rfl)) (by decide) (t := .long) (t' := .int) (by decide) (by decide))), r_mostFree.other W (Or.inr (slot_ne (Or.inr (ow hw 46 rfl)) (Or.inl (ow hw 82 rfl)) (by decide) (t := .long) (t' := .int) (by decide) (by decide))), r_mostSpend.other W (Or.inr (slot_ne (Or.inr (ow hw 48 rfl)) (Or.inl (ow hw 82 rfl)) (by decide) (t := .long) (t' := .int) (by decide) (by decide))), r_runAt.other W (Or.inr (slot_ne (Or.inl (ow hw 117 rfl)) (Or.inl (ow hw 82 rfl)) (by decide) (t := .int) (t' := .int) (by decide) (by decide))), r_freshAt.same W, r_freshKept.other W (Or.inr (slot_ne (Or.inl (ow hw 80 rfl)) (Or.inl (ow hw 82 rfl)) (by decide) (t := .int) (t' := .int) (by decide) (by decide))), r_ranking.other W (Or.inr (slot_ne (Or.inr (ow hw 50 rfl)) (Or.inl (ow hw 82 rfl)) (by decide) (t := (.array .int)) (t' := .int) (by decide) (by decide))), r_rankedAnew.other W (Or.inr (slot_ne (Or.inl (ow hw 123 rfl)) (Or.inl (ow hw 82 rfl)) (by decide) (t := .boolean) (t' := .int) (by decide) (by decide))), r_at.other W (Or.inr (slot_ne (Or.inl (ow hw 125 rfl)) (Or.inl (ow hw 82 rfl)) (by decide) (t := .int) (t' := .int) (by decide) (by decide))), r_next.other W (Or.inr (slot_ne (Or.inl (ow hw 132 rfl)) (Or.inl (ow hw 82 rfl)) (by decide) (t := .long) (t' := .int) (by decide) (by decide))), u1_rank.other W (Or.inl (on hinj 1 0 rfl)), u1_ranking.other W (Or.inl (on hinj 1 0 rfl)), u1_count.other W (Or.inl (on hinj 1 0 rfl)), u2_rank.other W (Or.inl (on hinj 2 0 rfl)), u2_ranking.other W (Or.inl (on hinj 2 0 rfl)), u2_count.other W (Or.inl (on hinj 2 0 rfl)), u3_rank.other W (Or.inl (on hinj 3 0 rfl)), u3_ranking.other W (Or.inl (on hinj 3 0 rfl)), u3_count.other W (Or.inl (on hinj 3 0 rfl)), a_l1.other W (on hinj 4 0 rfl), a_l2.other W (on hinj 5 0 rfl), a_l3.other W (on hinj 6 0 rfl), a_i1.other W (on hinj 7 0 rfl), a_i2.other W (on hinj 8 0 rfl), a_i3.other W (on hinj 9 0 rfl), a_k.other W (on hinj 10 0 rfl)⟩
theorem d19_239 : decode prog_98_method_9_code 239 = .ok (.aload_n 0, 1) := by decide +kernel
theorem d19_240 : decode prog_98_method_9_code 240 = .ok (.getfield 16, 3) := by decide +kernel
theorem d19_243 : decode prog_98_method_9_code 243 = .ok (.iload 11, 2) := by decide +kernel
theorem d19_245 : decode prog_98_method_9_code 245 = .ok (.putfield 78, 3) := by decide +kernel
theorem d19_248 : decode prog_98_method_9_code 248 = .ok (.return_, 1) := by decide +kernel
set_option maxRecDepth 65536 in
set_option maxHeartbeats 40000000 in
theorem own_c19 (l : Launch) (Z : State) (a0 : Array Value) (hw : ∀ d ∈ tables_1, d.before a0 Z = true) (h0 : Heap) (n0 : Nat) (ad : Nat → Addr) (v_fk : Int32) (v_an : Int32) (v_at : Int32) (v_nx : Int64) (v_l10 : Int64) (v_l11 : Int64) (v_l12 : Int64) (v_l20 : Int64) (v_l21 : Int64) (v_l22 : Int64) (v_l30 : Int64) (v_l31 : Int64) (v_l32 : Int64) (v_i10 : Int32) (v_i11 : Int32) (v_i12 : Int32) (v_i20 : Int32) (v_i21 : Int32) (v_i22 : Int32) (v_i30 : Int32) (v_i31 : Int32) (v_i32 : Int32) (g0 : own_ix ((v_l30 &&& (3 : Int64)).toInt32)) (g1 : own_ix ((v_l31 &&& (3 : Int64)).toInt32)) (g2 : own_ix ((v_l32 &&& (3 : Int64)).toInt32)) (H : own_H Z h0 n0 ad (ad 1) (ad 2) (0 : Int32) (0 : Int32) v_fk v_an v_at v_nx (0 : Int32) (0 : Int32) (3 : Int32) v_l10 v_l11 v_l12 v_l20 v_l21 v_l22 v_l30 v_l31 v_l32 v_i10 v_i11 v_i12 v_i20 v_i21 v_i22 v_i30 v_i31 v_i32 (0 : Int32) (0 : Int32) (0 : Int32)) :
    Con l Z (⟨"com/example/nearfield/nearfield/job/RankedReads", "mergeSome", "()V"⟩ : MethodName) prog_98_method_9_code 15 none [] ({ frames := 0, cells := 0, slots := 0, locals := 0 } : Room) 0 0 #[(.ref (ad 0))] h0 (fun r h L => r = none ∧ own_H Z h n0 ad (ad 1) (ad 2) (0 : Int32) (3 : Int32) v_fk v_an v_at v_nx (0 : Int32) (3 : Int32) (3 : Int32) v_l10 v_l11 v_l12 v_l30 v_l31 v_l32 v_l30 v_l31 v_l32 v_i10 v_i11 v_i12 (0 : Int32) (0 : Int32) (0 : Int32) v_i30 v_i31 v_i32 (0 : Int32) (0 : Int32) (0 : Int32) ∧ Fr n0 L) := by
  refine Con.of own_pn19 ?_
  intro pg ev s_ m bl mt cd s₁ hx hby hml hown hnm hret hlk hZ X0 e0
  rw [ef_19]
  show Gd _ _ _ _ (s₁.setTop (mkF m 0 #[.val (.ref (ad 0)), .unset, .unset, .unset, .unset, .unset, .unset, .unset, .unset, .unset, .unset, .unset, .unset, .unset, .unset] []))
  have N0 := Fr.nil n0
  refine Gd.go (fun _ w_k => XS.aloadN X0.here hx rfl (hb hby d19_0) rfl rfl w_k) ?_
  show Gd _ _ _ _ (s₁.setTop (mkF m 1 #[.val (.ref (ad 0)), .unset, .unset, .unset, .unset, .unset, .unset, .unset, .unset, .unset, .unset, .unset, .unset, .unset, .unset] [(.ref (ad 0))]))
  obtain ⟨T1, X1, e1, st1⟩ := getF X0 hx hZ hown (host := "") (Or.inl (ow hw 24 rfl)) Via.refl e0 H.2.2.2.2.2.2.1 (g := (mkF m 1 #[.val (.ref (ad 0)), .unset, .unset, .unset, .unset, .unset, .unset, .unset, .unset, .unset, .unset, .unset, .unset, .unset, .unset] [(.ref (ad 0))])) rfl rfl (hb hby d19_1)
  refine Gd.go (fun _ w_k => st1 _ (own_getR X1 hx hZ hown (ow hw 88 rfl) e1 H.2.2.2.2.2.2.2.2.2.2.2.2.2.2.2.2.2.2.2.2.2.1 (g := (mkF m 4 #[.val (.ref (ad 0)), .unset, .unset, .unset, .unset, .unset, .unset, .unset, .unset, .unset, .unset, .unset, .unset, .unset, .unset] [(.ref (ad 1))])) rfl rfl (hb hby d19_4) _ (XS.astoreN X1.here hx rfl (hb hby d19_7) rfl rfl (l' := #[.val (.ref (ad 0)), .val (.ref (ad 4)), .unset, .unset, .unset, .unset, .unset, .unset, .unset, .unset, .unset, .unset, .unset, .unset, .unset]) rfl (XS.aloadN X1.here hx rfl (hb hby d19_8) rfl rfl w_k)))) ?_
  show Gd _ _ _ _ (T1.setTop (mkF m 9 #[.val (.ref (ad 0)), .val (.ref (ad 4)), .unset, .unset, .unset, .unset, .unset, .unset, .unset, .unset, .unset, .unset, .unset, .unset, .unset] [(.ref (ad 0))]))
  obtain ⟨T2, X2, e2, st2⟩ := getF X1 hx hZ hown (host := "") (Or.inl (ow hw 24 rfl)) Via.refl e1 H.2.2.2.2.2.2.1 (g := (mkF m 9 #[.val (.ref (ad 0)), .val (.ref (ad 4)), .unset, .unset, .unset, .unset, .unset, .unset, .unset, .unset, .unset, .unset, .unset, .unset, .unset] [(.ref (ad 0))])) rfl rfl (hb hby d19_9)
  refine Gd.go (fun _ w_k => st2 _ (own_getR X2 hx hZ hown (ow hw 87 rfl) e2 H.2.2.2.2.2.2.2.2.2.2.2.2.2.2.2.2.2.2.2.2.2.2.1 (g := (mkF m 12 #[.val (.ref (ad 0)), .val (.ref (ad 4)), .unset, .unset, .unset, .unset, .unset, .unset, .unset, .unset, .unset, .unset, .unset, .unset, .unset] [(.ref (ad 1))])) rfl rfl (hb hby d19_12) _ (XS.astoreN X2.here hx rfl (hb hby d19_15) rfl rfl (l' := #[.val (.ref (ad 0)), .val (.ref (ad 4)), .val (.ref (ad 7)), .unset, .unset, .unset, .unset, .unset, .unset, .unset, .unset, .unset, .unset, .unset, .unset]) rfl (XS.aloadN X2.here hx rfl (hb hby d19_16) rfl rfl w_k)))) ?_
  show Gd _ _ _ _ (T2.setTop (mkF m 17 #[.val (.ref (ad 0)), .val (.ref (ad 4)), .val (.ref (ad 7)), .unset, .unset, .unset, .unset, .unset, .unset, .unset, .unset, .unset, .unset, .unset, .unset] [(.ref (ad 0))]))
  obtain ⟨T3, X3, e3, st3⟩ := getF X2 hx hZ hown (host := "") (Or.inl (ow hw 28 rfl)) Via.refl e2 H.2.2.2.2.2.2.2.2.1 (g := (mkF m 17 #[.val (.ref (ad 0)), .val (.ref (ad 4)), .val (.ref (ad 7)), .unset, .unset, .unset, .unset, .unset, .unset, .unset, .unset, .unset, .unset, .unset, .unset] [(.ref (ad 0))])) rfl rfl (hb hby d19_17)
  refine Gd.go (fun _ w_k => st3 _ (own_getR X3 hx hZ hown (ow hw 88 rfl) e3 H.2.2.2.2.2.2.2.2.2.2.2.2.2.2.2.2.2.2.2.2.2.2.2.2.2.2.2.1 (g := (mkF m 20 #[.val (.ref (ad 0)), .val (.ref (ad 4)), .val (.ref (ad 7)), .unset, .unset, .unset, .unset, .unset, .unset, .unset, .unset, .unset, .unset, .unset, .unset] [(.ref (ad 3))])) rfl rfl (hb hby d19_20) _ (XS.astoreN X3.here hx rfl (hb hby d19_23) rfl rfl (l' := #[.val (.ref (ad 0)), .val (.ref (ad 4)), .val (.ref (ad 7)), .val (.ref (ad 6)), .unset, .unset, .unset, .unset, .unset, .unset, .unset, .unset, .unset, .unset, .unset]) rfl (XS.aloadN X3.here hx rfl (hb hby d19_24) rfl rfl w_k)))) ?_
  show Gd _ _ _ _ (T3.setTop (mkF m 25 #[.val (.ref (ad 0)), .val (.ref (ad 4)), .val (.ref (ad 7)), .val (.ref (ad 6)), .unset, .unset, .unset, .unset, .unset, .unset, .unset, .unset, .unset, .unset, .unset] [(.ref (ad 0))]))
  obtain ⟨T4, X4, e4, st4⟩ := getF X3 hx hZ hown (host := "") (Or.inl (ow hw 26 rfl)) Via.refl e3 H.2.2.2.2.2.2.2.1 (g := (mkF m 25 #[.val (.ref (ad 0)), .val (.ref (ad 4)), .val (.ref (ad 7)), .val (.ref (ad 6)), .unset, .unset, .unset, .unset, .unset, .unset, .unset, .unset, .unset, .unset, .unset] [(.ref (ad 0))])) rfl rfl (hb hby d19_25)
  refine Gd.go (fun _ w_k => st4 _ (own_getR X4 hx hZ hown (ow hw 88 rfl) e4 H.2.2.2.2.2.2.2.2.2.2.2.2.2.2.2.2.2.2.2.2.2.2.2.2.1 (g := (mkF m 28 #[.val (.ref (ad 0)), .val (.ref (ad 4)), .val (.ref (ad 7)), .val (.ref (ad 6)), .unset, .unset, .unset, .unset, .unset, .unset, .unset, .unset, .unset, .unset, .unset] [(.ref (ad 2))])) rfl rfl (hb hby d19_28) _ (XS.astore X4.here hx rfl (hb hby d19_31) rfl rfl (l' := #[.val (.ref (ad 0)), .val (.ref (ad 4)), .val (.ref (ad 7)), .val (.ref (ad 6)), .val (.ref (ad 5)), .unset, .unset, .unset, .unset, .unset, .unset, .unset, .unset, .unset, .unset]) rfl (XS.aloadN X4.here hx rfl (hb hby d19_33) rfl rfl w_k)))) ?_
  show Gd _ _ _ _ (T4.setTop (mkF m 34 #[.val (.ref (ad 0)), .val (.ref (ad 4)), .val (.ref (ad 7)), .val (.ref (ad 6)), .val (.ref (ad 5)), .unset, .unset, .unset, .unset, .unset, .unset, .unset, .unset, .unset, .unset] [(.ref (ad 0))]))
  obtain ⟨T5, X5, e5, st5⟩ := getF X4 hx hZ hown (host := "") (Or.inl (ow hw 26 rfl)) Via.refl e4 H.2.2.2.2.2.2.2.1 (g := (mkF m 34 #[.val (.ref (ad 0)), .val (.ref (ad 4)), .val (.ref (ad 7)), .val (.ref (ad 6)), .val (.ref (ad 5)), .unset, .unset, .unset, .unset, .unset, .unset, .unset, .unset, .unset, .unset] [(.ref (ad 0))])) rfl rfl (hb hby d19_34)
  refine Gd.go (fun _ w_k => st5 _ (own_getR X5 hx hZ hown (ow hw 87 rfl) e5 H.2.2.2.2.2.2.2.2.2.2.2.2.2.2.2.2.2.2.2.2.2.2.2.2.2.1 (g := (mkF m 37 #[.val (.ref (ad 0)), .val (.ref (ad 4)), .val (.ref (ad 7)), .val (.ref (ad 6)), .val (.ref (ad 5)), .unset, .unset, .unset, .unset, .unset, .unset, .unset, .unset, .unset, .unset] [(.ref (ad 2))])) rfl rfl (hb hby d19_37) _ (XS.astore X5.here hx rfl (hb hby d19_40) rfl rfl (l' := #[.val (.ref (ad 0)), .val (.ref (ad 4)), .val (.ref (ad 7)), .val (.ref (ad 6)), .val (.ref (ad 5)), .val (.ref (ad 8)), .unset, .unset, .unset, .unset, .unset, .unset, .unset, .unset, .unset]) rfl (XS.aloadN X5.here hx rfl (hb hby d19_42) rfl rfl w_k)))) ?_
  show Gd _ _ _ _ (T5.setTop (mkF m 43 #[.val (.ref (ad 0)), .val (.ref (ad 4)), .val (.ref (ad 7)), .val (.ref (ad 6)), .val (.ref (ad 5)), .val (.ref (ad 8)), .unset, .unset, .unset, .unset, .unset, .unset, .unset, .unset, .unset] [(.ref (ad 0))]))
  obtain ⟨T6, X6, e6, st6⟩ := getF X5 hx hZ hown (host := "") (Or.inl (ow hw 49 rfl)) Via.refl e5 H.2.2.2.2.2.2.2.2.2.2.2.2.2.2.2.2.2.1 (g := (mkF m 43 #[.val (.ref (ad 0)), .val (.ref (ad 4)), .val (.ref (ad 7)), .val (.ref (ad 6)), .val (.ref (ad 5)), .val (.ref (ad 8)), .unset, .unset, .unset, .unset, .unset, .unset, .unset, .unset, .unset] [(.ref (ad 0))])) rfl rfl (hb hby d19_43)
  refine Gd.go (fun _ w_k => st6 _ (XS.astore X6.here hx rfl (hb hby d19_46) rfl rfl (l' := #[.val (.ref (ad 0)), .val (.ref (ad 4)), .val (.ref (ad 7)), .val (.ref (ad 6)), .val (.ref (ad 5)), .val (.ref (ad 8)), .val (.ref (ad 10)), .unset, .unset, .unset, .unset, .unset, .unset, .unset, .unset]) rfl (XS.aloadN X6.here hx rfl (hb hby d19_48) rfl rfl w_k))) ?_
  show Gd _ _ _ _ (T6.setTop (mkF m 49 #[.val (.ref (ad 0)), .val (.ref (ad 4)), .val (.ref (ad 7)), .val (.ref (ad 6)), .val (.ref (ad 5)), .val (.ref (ad 8)), .val (.ref (ad 10)), .unset, .unset, .unset, .unset, .unset, .unset, .unset, .unset] [(.ref (ad 0))]))
  obtain ⟨T7, X7, e7, st7⟩ := getF X6 hx hZ hown (host := "") (Or.inl (ow hw 24 rfl)) Via.refl e6 H.2.2.2.2.2.2.1 (g := (mkF m 49 #[.val (.ref (ad 0)), .val (.ref (ad 4)), .val (.ref (ad 7)), .val (.ref (ad 6)), .val (.ref (ad 5)), .val (.ref (ad 8)), .val (.ref (ad 10)), .unset, .unset, .unset, .unset, .unset, .unset, .unset, .unset] [(.ref (ad 0))])) rfl rfl (hb hby d19_49)
  refine Gd.go (fun _ w_k => st7 _ (own_getR X7 hx hZ hown (ow hw 78 rfl) e7 H.2.2.2.2.2.2.2.2.2.2.2.2.2.2.2.2.2.2.2.2.2.2.2.1 (g := (mkF m 52 #[.val (.ref (ad 0)), .val (.ref (ad 4)), .val (.ref (ad 7)), .val (.ref (ad 6)), .val (.ref (ad 5)), .val (.ref (ad 8)), .val (.ref (ad 10)), .unset, .unset, .unset, .unset, .unset, .unset, .unset, .unset] [(.ref (ad 1))])) rfl rfl (hb hby d19_52) _ (XS.istore X7.here hx rfl (hb hby d19_55) rfl (l' := #[.val (.ref (ad 0)), .val (.ref (ad 4)), .val (.ref (ad 7)), .val (.ref (ad 6)), .val (.ref (ad 5)), .val (.ref (ad 8)), .val (.ref (ad 10)), .val (.int (0 : Int32)), .unset, .unset, .unset, .unset, .unset, .unset, .unset]) rfl (XS.aloadN X7.here hx rfl (hb hby d19_57) rfl rfl w_k)))) ?_
  show Gd _ _ _ _ (T7.setTop (mkF m 58 #[.val (.ref (ad 0)), .val (.ref (ad 4)), .val (.ref (ad 7)), .val (.ref (ad 6)), .val (.ref (ad 5)), .val (.ref (ad 8)), .val (.ref (ad 10)), .val (.int (0 : Int32)), .unset, .unset, .unset, .unset, .unset, .unset, .unset] [(.ref (ad 0))]))
  obtain ⟨T8, X8, e8, st8⟩ := getF X7 hx hZ hown (host := "") (Or.inl (ow hw 28 rfl)) Via.refl e7 H.2.2.2.2.2.2.2.2.1 (g := (mkF m 58 #[.val (.ref (ad 0)), .val (.ref (ad 4)), .val (.ref (ad 7)), .val (.ref (ad 6)), .val (.ref (ad 5)), .val (.ref (ad 8)), .val (.ref (ad 10)), .val (.int (0 : Int32)), .unset, .unset, .unset, .unset, .unset, .unset, .unset] [(.ref (ad 0))])) rfl rfl (hb hby d19_58)
  refine Gd.go (fun _ w_k => st8 _ (own_getR X8 hx hZ hown (ow hw 78 rfl) e8 H.2.2.2.2.2.2.2.2.2.2.2.2.2.2.2.2.2.2.2.2.2.2.2.2.2.2.2.2.2.1 (g := (mkF m 61 #[.val (.ref (ad 0)), .val (.ref (ad 4)), .val (.ref (ad 7)), .val (.ref (ad 6)), .val (.ref (ad 5)), .val (.ref (ad 8)), .val (.ref (ad 10)), .val (.int (0 : Int32)), .unset, .unset, .unset, .unset, .unset, .unset, .unset] [(.ref (ad 3))])) rfl rfl (hb hby d19_61) _ (XS.istore X8.here hx rfl (hb hby d19_64) rfl (l' := #[.val (.ref (ad 0)), .val (.ref (ad 4)), .val (.ref (ad 7)), .val (.ref (ad 6)), .val (.ref (ad 5)), .val (.ref (ad 8)), .val (.ref (ad 10)), .val (.int (0 : Int32)), .val (.int (3 : Int32)), .unset, .unset, .unset, .unset, .unset, .unset]) rfl (XS.aloadN X8.here hx rfl (hb hby d19_66) rfl rfl w_k)))) ?_
  show Gd _ _ _ _ (T8.setTop (mkF m 67 #[.val (.ref (ad 0)), .val (.ref (ad 4)), .val (.ref (ad 7)), .val (.ref (ad 6)), .val (.ref (ad 5)), .val (.ref (ad 8)), .val (.ref (ad 10)), .val (.int (0 : Int32)), .val (.int (3 : Int32)), .unset, .unset, .unset, .unset, .unset, .unset] [(.ref (ad 0))]))
  obtain ⟨T9, X9, e9, st9⟩ := getF X8 hx hZ hown (host := "") (Or.inl (ow hw 116 rfl)) Via.refl e8 H.2.2.2.2.2.2.2.2.2.2.2.2.2.2.1 (g := (mkF m 67 #[.val (.ref (ad 0)), .val (.ref (ad 4)), .val (.ref (ad 7)), .val (.ref (ad 6)), .val (.ref (ad 5)), .val (.ref (ad 8)), .val (.ref (ad 10)), .val (.int (0 : Int32)), .val (.int (3 : Int32)), .unset, .unset, .unset, .unset, .unset, .unset] [(.ref (ad 0))])) rfl rfl (hb hby d19_67)
  refine Gd.go (fun _ w_k => st9 _ (XS.istore X9.here hx rfl (hb hby d19_70) rfl (l' := #[.val (.ref (ad 0)), .val (.ref (ad 4)), .val (.ref (ad 7)), .val (.ref (ad 6)), .val (.ref (ad 5)), .val (.ref (ad 8)), .val (.ref (ad 10)), .val (.int (0 : Int32)), .val (.int (3 : Int32)), .val (.int (0 : Int32)), .unset, .unset, .unset, .unset, .unset]) rfl (XS.aloadN X9.here hx rfl (hb hby d19_72) rfl rfl w_k))) ?_
  show Gd _ _ _ _ (T9.setTop (mkF m 73 #[.val (.ref (ad 0)), .val (.ref (ad 4)), .val (.ref (ad 7)), .val (.ref (ad 6)), .val (.ref (ad 5)), .val (.ref (ad 8)), .val (.ref (ad 10)), .val (.int (0 : Int32)), .val (.int (3 : Int32)), .val (.int (0 : Int32)), .unset, .unset, .unset, .unset, .unset] [(.ref (ad 0))]))
  obtain ⟨T10, X10, e10, st10⟩ := getF X9 hx hZ hown (host := "") (Or.inl (ow hw 81 rfl)) Via.refl e9 H.2.2.2.2.2.2.2.2.2.2.2.2.2.2.2.1 (g := (mkF m 73 #[.val (.ref (ad 0)), .val (.ref (ad 4)), .val (.ref (ad 7)), .val (.ref (ad 6)), .val (.ref (ad 5)), .val (.ref (ad 8)), .val (.ref (ad 10)), .val (.int (0 : Int32)), .val (.int (3 : Int32)), .val (.int (0 : Int32)), .unset, .unset, .unset, .unset, .unset] [(.ref (ad 0))])) rfl rfl (hb hby d19_73)
  refine Gd.go (fun _ w_k => st10 _ (XS.istore X10.here hx rfl (hb hby d19_76) rfl (l' := #[.val (.ref (ad 0)), .val (.ref (ad 4)), .val (.ref (ad 7)), .val (.ref (ad 6)), .val (.ref (ad 5)), .val (.ref (ad 8)), .val (.ref (ad 10)), .val (.int (0 : Int32)), .val (.int (3 : Int32)), .val (.int (0 : Int32)), .val (.int (0 : Int32)), .unset, .unset, .unset, .unset]) rfl (XS.aloadN X10.here hx rfl (hb hby d19_78) rfl rfl w_k))) ?_
  show Gd _ _ _ _ (T10.setTop (mkF m 79 #[.val (.ref (ad 0)), .val (.ref (ad 4)), .val (.ref (ad 7)), .val (.ref (ad 6)), .val (.ref (ad 5)), .val (.ref (ad 8)), .val (.ref (ad 10)), .val (.int (0 : Int32)), .val (.int (3 : Int32)), .val (.int (0 : Int32)), .val (.int (0 : Int32)), .unset, .unset, .unset, .unset] [(.ref (ad 0))]))
  obtain ⟨T11, X11, e11, st11⟩ := getF X10 hx hZ hown (host := "") (Or.inl (ow hw 26 rfl)) Via.refl e10 H.2.2.2.2.2.2.2.1 (g := (mkF m 79 #[.val (.ref (ad 0)), .val (.ref (ad 4)), .val (.ref (ad 7)), .val (.ref (ad 6)), .val (.ref (ad 5)), .val (.ref (ad 8)), .val (.ref (ad 10)), .val (.int (0 : Int32)), .val (.int (3 : Int32)), .val (.int (0 : Int32)), .val (.int (0 : Int32)), .unset, .unset, .unset, .unset] [(.ref (ad 0))])) rfl rfl (hb hby d19_79)
  refine Gd.go (fun _ w_k => st11 _ (own_getR X11 hx hZ hown (ow hw 78 rfl) e11 H.2.2.2.2.2.2.2.2.2.2.2.2.2.2.2.2.2.2.2.2.2.2.2.2.2.2.1 (g := (mkF m 82 #[.val (.ref (ad 0)), .val (.ref (ad 4)), .val (.ref (ad 7)), .val (.ref (ad 6)), .val (.ref (ad 5)), .val (.ref (ad 8)), .val (.ref (ad 10)), .val (.int (0 : Int32)), .val (.int (3 : Int32)), .val (.int (0 : Int32)), .val (.int (0 : Int32)), .unset, .unset, .unset, .unset] [(.ref (ad 2))])) rfl rfl (hb hby d19_82) _ (XS.istore X11.here hx rfl (hb hby d19_85) rfl (l' := #[.val (.ref (ad 0)), .val (.ref (ad 4)), .val (.ref (ad 7)), .val (.ref (ad 6)), .val (.ref (ad 5)), .val (.ref (ad 8)), .val (.ref (ad 10)), .val (.int (0 : Int32)), .val (.int (3 : Int32)), .val (.int (0 : Int32)), .val (.int (0 : Int32)), .val (.int (0 : Int32)), .unset, .unset, .unset]) rfl (XS.iconst X11.here hx rfl (hb hby d19_87) (XS.istore X11.here hx rfl (hb hby d19_88) rfl (l' := #[.val (.ref (ad 0)), .val (.ref (ad 4)), .val (.ref (ad 7)), .val (.ref (ad 6)), .val (.ref (ad 5)), .val (.ref (ad 8)), .val (.ref (ad 10)), .val (.int (0 : Int32)), .val (.int (3 : Int32)), .val (.int (0 : Int32)), .val (.int (0 : Int32)), .val (.int (0 : Int32)), .val (.int (0 : Int32)), .unset, .unset]) rfl (XS.iload X11.here hx rfl (hb hby d19_90) rfl (XS.bipush X11.here hx rfl (hb hby d19_92) (XS.icmpNo X11.here hx rfl (hb hby d19_94) rfl (tlt (by decide)).2.1 w_k)))))))) ?_
  show Gd _ _ _ _ (T11.setTop (mkF m 97 #[.val (.ref (ad 0)), .val (.ref (ad 4)), .val (.ref (ad 7)), .val (.ref (ad 6)), .val (.ref (ad 5)), .val (.ref (ad 8)), .val (.ref (ad 10)), .val (.int (0 : Int32)), .val (.int (3 : Int32)), .val (.int (0 : Int32)), .val (.int (0 : Int32)), .val (.int (0 : Int32)), .val (.int (0 : Int32)), .unset, .unset] []))
  refine Gd.go (fun _ w_k => XS.iload X11.here hx rfl (hb hby d19_97) rfl (XS.iload X11.here hx rfl (hb hby d19_99) rfl (XS.icmpNo X11.here hx rfl (hb hby d19_101) rfl (flt (by decide)).1 w_k))) ?_
  show Gd _ _ _ _ (T11.setTop (mkF m 104 #[.val (.ref (ad 0)), .val (.ref (ad 4)), .val (.ref (ad 7)), .val (.ref (ad 6)), .val (.ref (ad 5)), .val (.ref (ad 8)), .val (.ref (ad 10)), .val (.int (0 : Int32)), .val (.int (3 : Int32)), .val (.int (0 : Int32)), .val (.int (0 : Int32)), .val (.int (0 : Int32)), .val (.int (0 : Int32)), .unset, .unset] []))
  refine Gd.go (fun _ w_k => XS.iload X11.here hx rfl (hb hby d19_104) rfl (XS.iload X11.here hx rfl (hb hby d19_106) rfl (XS.icmpNo X11.here hx rfl (hb hby d19_108) rfl (tlt (by decide)).2.1 w_k))) ?_
  show Gd _ _ _ _ (T11.setTop (mkF m 111 #[.val (.ref (ad 0)), .val (.ref (ad 4)), .val (.ref (ad 7)), .val (.ref (ad 6)), .val (.ref (ad 5)), .val (.ref (ad 8)), .val (.ref (ad 10)), .val (.int (0 : Int32)), .val (.int (3 : Int32)), .val (.int (0 : Int32)), .val (.int (0 : Int32)), .val (.int (0 : Int32)), .val (.int (0 : Int32)), .unset, .unset] []))
  refine Gd.go (fun _ w_k => XS.iload X11.here hx rfl (hb hby d19_111) rfl (XS.iload X11.here hx rfl (hb hby d19_113) rfl (XS.icmpNo X11.here hx rfl (hb hby d19_115) rfl (feq (by decide)).1 w_k))) ?_
  show Gd _ _ _ _ (T11.setTop (mkF m 118 #[.val (.ref (ad 0)), .val (.ref (ad 4)), .val (.ref (ad 7)), .val (.ref (ad 6)), .val (.ref (ad 5)), .val (.ref (ad 8)), .val (.ref (ad 10)), .val (.int (0 : Int32)), .val (.int (3 : Int32)), .val (.int (0 : Int32)), .val (.int (0 : Int32)), .val (.int (0 : Int32)), .val (.int (0 : Int32)), .unset, .unset] []))
  refine Gd.go (fun _ w_k => XS.iload X11.here hx rfl (hb hby d19_118) rfl (XS.iload X11.here hx rfl (hb hby d19_120) rfl (XS.icmpYes X11.here hx rfl (pc0 := 122) (pc' := 186) rfl (hb hby d19_122) rfl (flt (by decide)).2.1 (by decide) (by decide) w_k))) ?_
  show Gd _ _ _ _ (T11.setTop (mkF m 186 #[.val (.ref (ad 0)), .val (.ref (ad 4)), .val (.ref (ad 7)), .val (.ref (ad 6)), .val (.ref (ad 5)), .val (.ref (ad 8)), .val (.ref (ad 10)), .val (.int (0 : Int32)), .val (.int (3 : Int32)), .val (.int (0 : Int32)), .val (.int (0 : Int32)), .val (.int (0 : Int32)), .val (.int (0 : Int32)), .unset, .unset] []))
  refine Gd.go (fun _ w_k => XS.aloadN X11.here hx rfl (hb hby d19_186) rfl rfl (XS.iload X11.here hx rfl (hb hby d19_187) rfl (own_ldJ X11 hx hZ e11 H.2.2.2.2.2.2.2.2.2.2.2.2.2.2.2.2.2.2.2.2.2.2.2.2.2.2.2.2.2.2.2.2.1 (j := (0 : Int32)) (by decide) (by decide) (v := (.long v_l30)) rfl (g := (mkF m 189 #[.val (.ref (ad 0)), .val (.ref (ad 4)), .val (.ref (ad 7)), .val (.ref (ad 6)), .val (.ref (ad 5)), .val (.ref (ad 8)), .val (.ref (ad 10)), .val (.int (0 : Int32)), .val (.int (3 : Int32)), .val (.int (0 : Int32)), .val (.int (0 : Int32)), .val (.int (0 : Int32)), .val (.int (0 : Int32)), .unset, .unset] [(.int (0 : Int32)), (.ref (ad 6))])) rfl rfl (hb hby d19_189) _ (XS.lstore X11.here hx rfl (hb hby d19_190) rfl (l' := #[.val (.ref (ad 0)), .val (.ref (ad 4)), .val (.ref (ad 7)), .val (.ref (ad 6)), .val (.ref (ad 5)), .val (.ref (ad 8)), .val (.ref (ad 10)), .val (.int (0 : Int32)), .val (.int (3 : Int32)), .val (.int (0 : Int32)), .val (.int (0 : Int32)), .val (.int (0 : Int32)), .val (.int (0 : Int32)), .val (.long v_l30), .second]) rfl (XS.aload X11.here hx rfl (hb hby d19_192) rfl rfl (XS.iload X11.here hx rfl (hb hby d19_194) rfl (XS.lload X11.here hx rfl (hb hby d19_196) rfl w_k))))))) ?_
  show Gd _ _ _ _ (T11.setTop (mkF m 198 #[.val (.ref (ad 0)), .val (.ref (ad 4)), .val (.ref (ad 7)), .val (.ref (ad 6)), .val (.ref (ad 5)), .val (.ref (ad 8)), .val (.ref (ad 10)), .val (.int (0 : Int32)), .val (.int (3 : Int32)), .val (.int (0 : Int32)), .val (.int (0 : Int32)), .val (.int (0 : Int32)), .val (.int (0 : Int32)), .val (.long v_l30), .second] [(.long v_l30), (.int (0 : Int32)), (.ref (ad 5))]))
  obtain ⟨T12, h12, X12, e12, W12, st12⟩ := own_stJ X11 hx hZ e11 H.2.2.2.2.2.2.2.2.2.2.2.2.2.2.2.2.2.2.2.2.2.2.2.2.2.2.2.2.2.2.2.1 (j := (0 : Int32)) (by decide) (by decide) (g := (mkF m 198 #[.val (.ref (ad 0)), .val (.ref (ad 4)), .val (.ref (ad 7)), .val (.ref (ad 6)), .val (.ref (ad 5)), .val (.ref (ad 8)), .val (.ref (ad 10)), .val (.int (0 : Int32)), .val (.int (3 : Int32)), .val (.int (0 : Int32)), .val (.int (0 : Int32)), .val (.int (0 : Int32)), .val (.int (0 : Int32)), .val (.long v_l30), .second] [(.long v_l30), (.int (0 : Int32)), (.ref (ad 5))])) rfl rfl (hb hby d19_198)
  refine Gd.go (fun _ w_k => st12 _ w_k) ?_
  have H13 := own_w_l20 hw H W12
  have xN14 := Fr.snoc X12 N0 (H.2.1 5 (by decide))
  show Gd _ _ _ _ (T12.setTop (mkF m 199 #[.val (.ref (ad 0)), .val (.ref (ad 4)), .val (.ref (ad 7)), .val (.ref (ad 6)), .val (.ref (ad 5)), .val (.ref (ad 8)), .val (.ref (ad 10)), .val (.int (0 : Int32)), .val (.int (3 : Int32)), .val (.int (0 : Int32)), .val (.int (0 : Int32)), .val (.int (0 : Int32)), .val (.int (0 : Int32)), .val (.long v_l30), .second] []))
  refine Gd.go (fun _ w_k => XS.aload X12.here hx rfl (hb hby d19_199) rfl rfl (XS.iload X12.here hx rfl (hb hby d19_201) rfl (XS.iinc X12.here hx rfl (hb hby d19_203) rfl (l' := #[.val (.ref (ad 0)), .val (.ref (ad 4)), .val (.ref (ad 7)), .val (.ref (ad 6)), .val (.ref (ad 5)), .val (.ref (ad 8)), .val (.ref (ad 10)), .val (.int (0 : Int32)), .val (.int (3 : Int32)), .val (.int (0 : Int32)), .val (.int (0 : Int32)), .val (.int ((0 : Int32) + (1 : Int32))), .val (.int (0 : Int32)), .val (.long v_l30), .second]) rfl w_k))) ?_
  show Gd _ _ _ _ (T12.setTop (mkF m 206 #[.val (.ref (ad 0)), .val (.ref (ad 4)), .val (.ref (ad 7)), .val (.ref (ad 6)), .val (.ref (ad 5)), .val (.ref (ad 8)), .val (.ref (ad 10)), .val (.int (0 : Int32)), .val (.int (3 : Int32)), .val (.int (0 : Int32)), .val (.int (0 : Int32)), .val (.int ((0 : Int32) + (1 : Int32))), .val (.int (0 : Int32)), .val (.long v_l30), .second] [(.int (0 : Int32)), (.ref (ad 8))]))
  rw [show ((0 : Int32) + (1 : Int32)) = (1 : Int32) from by decide]
  show Gd _ _ _ _ (T12.setTop (mkF m 206 #[.val (.ref (ad 0)), .val (.ref (ad 4)), .val (.ref (ad 7)), .val (.ref (ad 6)), .val (.ref (ad 5)), .val (.ref (ad 8)), .val (.ref (ad 10)), .val (.int (0 : Int32)), .val (.int (3 : Int32)), .val (.int (0 : Int32)), .val (.int (0 : Int32)), .val (.int (1 : Int32)), .val (.int (0 : Int32)), .val (.long v_l30), .second] [(.int (0 : Int32)), (.ref (ad 8))]))
  refine Gd.go (fun _ w_k => XS.aload X12.here hx rfl (hb hby d19_206) rfl rfl (XS.lload X12.here hx rfl (hb hby d19_208) rfl (XS.aloadN X12.here hx rfl (hb hby d19_210) rfl rfl w_k))) ?_
  show Gd _ _ _ _ (T12.setTop (mkF m 211 #[.val (.ref (ad 0)), .val (.ref (ad 4)), .val (.ref (ad 7)), .val (.ref (ad 6)), .val (.ref (ad 5)), .val (.ref (ad 8)), .val (.ref (ad 10)), .val (.int (0 : Int32)), .val (.int (3 : Int32)), .val (.int (0 : Int32)), .val (.int (0 : Int32)), .val (.int (1 : Int32)), .val (.int (0 : Int32)), .val (.long v_l30), .second] [(.ref (ad 0)), (.long v_l30), (.ref (ad 10)), (.int (0 : Int32)), (.ref (ad 8))]))
  obtain ⟨T15, X15, e15, st15⟩ := getF X12 hx hZ hown (host := "") (Or.inl (ow hw 43 rfl)) Via.refl e12 H13.2.2.2.2.2.2.2.2.2.2.2.1 (g := (mkF m 211 #[.val (.ref (ad 0)), .val (.ref (ad 4)), .val (.ref (ad 7)), .val (.ref (ad 6)), .val (.ref (ad 5)), .val (.ref (ad 8)), .val (.ref (ad 10)), .val (.int (0 : Int32)), .val (.int (3 : Int32)), .val (.int (0 : Int32)), .val (.int (0 : Int32)), .val (.int (1 : Int32)), .val (.int (0 : Int32)), .val (.long v_l30), .second] [(.ref (ad 0)), (.long v_l30), (.ref (ad 10)), (.int (0 : Int32)), (.ref (ad 8))])) rfl rfl (hb hby d19_211)
  refine Gd.go (fun _ w_k => st15 _ (XS.land X15.here hx rfl (hb hby d19_214) rfl (XS.l2i X15.here hx rfl (hb hby d19_215) rfl (own_ldI X15 hx hZ e15 H13.2.2.2.2.2.2.2.2.2.2.2.2.2.2.2.2.2.2.2.2.2.2.2.2.2.2.2.2.2.2.2.2.2.2.2.2 (j := ((v_l30 &&& (3 : Int64)).toInt32)) g0.1 g0.2 (v := (.int (own_k (0 : Int32) (0 : Int32) (0 : Int32) ((v_l30 &&& (3 : Int64)).toInt32)))) (own_kI g0) (g := (mkF m 216 #[.val (.ref (ad 0)), .val (.ref (ad 4)), .val (.ref (ad 7)), .val (.ref (ad 6)), .val (.ref (ad 5)), .val (.ref (ad 8)), .val (.ref (ad 10)), .val (.int (0 : Int32)), .val (.int (3 : Int32)), .val (.int (0 : Int32)), .val (.int (0 : Int32)), .val (.int (1 : Int32)), .val (.int (0 : Int32)), .val (.long v_l30), .second] [(.int ((v_l30 &&& (3 : Int64)).toInt32)), (.ref (ad 10)), (.int (0 : Int32)), (.ref (ad 8))])) rfl rfl (hb hby d19_216) _ w_k)))) ?_
  show Gd _ _ _ _ (T15.setTop (mkF m 217 #[.val (.ref (ad 0)), .val (.ref (ad 4)), .val (.ref (ad 7)), .val (.ref (ad 6)), .val (.ref (ad 5)), .val (.ref (ad 8)), .val (.ref (ad 10)), .val (.int (0 : Int32)), .val (.int (3 : Int32)), .val (.int (0 : Int32)), .val (.int (0 : Int32)), .val (.int (1 : Int32)), .val (.int (0 : Int32)), .val (.long v_l30), .second] [(.int (own_k (0 : Int32) (0 : Int32) (0 : Int32) ((v_l30 &&& (3 : Int64)).toInt32))), (.int (0 : Int32)), (.ref (ad 8))]))
  rw [own_k0]
  show Gd _ _ _ _ (T15.setTop (mkF m 217 #[.val (.ref (ad 0)), .val (.ref (ad 4)), .val (.ref (ad 7)), .val (.ref (ad 6)), .val (.ref (ad 5)), .val (.ref (ad 8)), .val (.ref (ad 10)), .val (.int (0 : Int32)), .val (.int (3 : Int32)), .val (.int (0 : Int32)), .val (.int (0 : Int32)), .val (.int (1 : Int32)), .val (.int (0 : Int32)), .val (.long v_l30), .second] [(.int (0 : Int32)), (.int (0 : Int32)), (.ref (ad 8))]))
  obtain ⟨T16, h16, X16, e16, W16, st16⟩ := own_stI X15 hx hZ e15 H13.2.2.2.2.2.2.2.2.2.2.2.2.2.2.2.2.2.2.2.2.2.2.2.2.2.2.2.2.2.2.2.2.2.2.1 (j := (0 : Int32)) (by decide) (by decide) (g := (mkF m 217 #[.val (.ref (ad 0)), .val (.ref (ad 4)), .val (.ref (ad 7)), .val (.ref (ad 6)), .val (.ref (ad 5)), .val (.ref (ad 8)), .val (.ref (ad 10)), .val (.int (0 : Int32)), .val (.int (3 : Int32)), .val (.int (0 : Int32)), .val (.int (0 : Int32)), .val (.int (1 : Int32)), .val (.int (0 : Int32)), .val (.long v_l30), .second] [(.int (0 : Int32)), (.int (0 : Int32)), (.ref (ad 8))])) rfl rfl (hb hby d19_217)
  refine Gd.go (fun _ w_k => st16 _ w_k) ?_
  have H17 := own_w_i20 hw H13 W16
  have xN18 := Fr.snoc X16 xN14 (H.2.1 8 (by decide))
  show Gd _ _ _ _ (T16.setTop (mkF m 218 #[.val (.ref (ad 0)), .val (.ref (ad 4)), .val (.ref (ad 7)), .val (.ref (ad 6)), .val (.ref (ad 5)), .val (.ref (ad 8)), .val (.ref (ad 10)), .val (.int (0 : Int32)), .val (.int (3 : Int32)), .val (.int (0 : Int32)), .val (.int (0 : Int32)), .val (.int (1 : Int32)), .val (.int (0 : Int32)), .val (.long v_l30), .second] []))
  refine Gd.go (fun _ w_k => XS.iinc X16.here hx rfl (hb hby d19_218) rfl (l' := #[.val (.ref (ad 0)), .val (.ref (ad 4)), .val (.ref (ad 7)), .val (.ref (ad 6)), .val (.ref (ad 5)), .val (.ref (ad 8)), .val (.ref (ad 10)), .val (.int (0 : Int32)), .val (.int (3 : Int32)), .val (.int (0 : Int32)), .val (.int ((0 : Int32) + (1 : Int32))), .val (.int (1 : Int32)), .val (.int (0 : Int32)), .val (.long v_l30), .second]) rfl w_k) ?_
  show Gd _ _ _ _ (T16.setTop (mkF m 221 #[.val (.ref (ad 0)), .val (.ref (ad 4)), .val (.ref (ad 7)), .val (.ref (ad 6)), .val (.ref (ad 5)), .val (.ref (ad 8)), .val (.ref (ad 10)), .val (.int (0 : Int32)), .val (.int (3 : Int32)), .val (.int (0 : Int32)), .val (.int ((0 : Int32) + (1 : Int32))), .val (.int (1 : Int32)), .val (.int (0 : Int32)), .val (.long v_l30), .second] []))
  rw [show ((0 : Int32) + (1 : Int32)) = (1 : Int32) from by decide]
  show Gd _ _ _ _ (T16.setTop (mkF m 221 #[.val (.ref (ad 0)), .val (.ref (ad 4)), .val (.ref (ad 7)), .val (.ref (ad 6)), .val (.ref (ad 5)), .val (.ref (ad 8)), .val (.ref (ad 10)), .val (.int (0 : Int32)), .val (.int (3 : Int32)), .val (.int (0 : Int32)), .val (.int (1 : Int32)), .val (.int (1 : Int32)), .val (.int (0 : Int32)), .val (.long v_l30), .second] []))
  refine Gd.go (fun _ w_k => XS.iinc X16.here hx rfl (hb hby d19_221) rfl (l' := #[.val (.ref (ad 0)), .val (.ref (ad 4)), .val (.ref (ad 7)), .val (.ref (ad 6)), .val (.ref (ad 5)), .val (.ref (ad 8)), .val (.ref (ad 10)), .val (.int (0 : Int32)), .val (.int (3 : Int32)), .val (.int (0 : Int32)), .val (.int (1 : Int32)), .val (.int (1 : Int32)), .val (.int ((0 : Int32) + (1 : Int32))), .val (.long v_l30), .second]) rfl w_k) ?_
  show Gd _ _ _ _ (T16.setTop (mkF m 224 #[.val (.ref (ad 0)), .val (.ref (ad 4)), .val (.ref (ad 7)), .val (.ref (ad 6)), .val (.ref (ad 5)), .val (.ref (ad 8)), .val (.ref (ad 10)), .val (.int (0 : Int32)), .val (.int (3 : Int32)), .val (.int (0 : Int32)), .val (.int (1 : Int32)), .val (.int (1 : Int32)), .val (.int ((0 : Int32) + (1 : Int32))), .val (.long v_l30), .second] []))
  rw [show ((0 : Int32) + (1 : Int32)) = (1 : Int32) from by decide]
  show Gd _ _ _ _ (T16.setTop (mkF m 224 #[.val (.ref (ad 0)), .val (.ref (ad 4)), .val (.ref (ad 7)), .val (.ref (ad 6)), .val (.ref (ad 5)), .val (.ref (ad 8)), .val (.ref (ad 10)), .val (.int (0 : Int32)), .val (.int (3 : Int32)), .val (.int (0 : Int32)), .val (.int (1 : Int32)), .val (.int (1 : Int32)), .val (.int (1 : Int32)), .val (.long v_l30), .second] []))
  refine Gd.go (fun _ w_k => XS.goto X16.here hx rfl (pc0 := 224) (pc' := 90) rfl (hb hby d19_224) (by decide) (by decide) (XS.iload X16.here hx rfl (hb hby d19_90) rfl (XS.bipush X16.here hx rfl (hb hby d19_92) (XS.icmpNo X16.here hx rfl (hb hby d19_94) rfl (tlt (by decide)).2.1 w_k)))) ?_
  show Gd _ _ _ _ (T16.setTop (mkF m 97 #[.val (.ref (ad 0)), .val (.ref (ad 4)), .val (.ref (ad 7)), .val (.ref (ad 6)), .val (.ref (ad 5)), .val (.ref (ad 8)), .val (.ref (ad 10)), .val (.int (0 : Int32)), .val (.int (3 : Int32)), .val (.int (0 : Int32)), .val (.int (1 : Int32)), .val (.int (1 : Int32)), .val (.int (1 : Int32)), .val (.long v_l30), .second] []))
  refine Gd.go (fun _ w_k => XS.iload X16.here hx rfl (hb hby d19_97) rfl (XS.iload X16.here hx rfl (hb hby d19_99) rfl (XS.icmpNo X16.here hx rfl (hb hby d19_101) rfl (flt (by decide)).1 w_k))) ?_
  show Gd _ _ _ _ (T16.setTop (mkF m 104 #[.val (.ref (ad 0)), .val (.ref (ad 4)), .val (.ref (ad 7)), .val (.ref (ad 6)), .val (.ref (ad 5)), .val (.ref (ad 8)), .val (.ref (ad 10)), .val (.int (0 : Int32)), .val (.int (3 : Int32)), .val (.int (0 : Int32)), .val (.int (1 : Int32)), .val (.int (1 : Int32)), .val (.int (1 : Int32)), .val (.long v_l30), .second] []))
  refine Gd.go (fun _ w_k => XS.iload X16.here hx rfl (hb hby d19_104) rfl (XS.iload X16.here hx rfl (hb hby d19_106) rfl (XS.icmpNo X16.here hx rfl (hb hby d19_108) rfl (tlt (by decide)).2.1 w_k))) ?_
  show Gd _ _ _ _ (T16.setTop (mkF m 111 #[.val (.ref (ad 0)), .val (.ref (ad 4)), .val (.ref (ad 7)), .val (.ref (ad 6)), .val (.ref (ad 5)), .val (.ref (ad 8)), .val (.ref (ad 10)), .val (.int (0 : Int32)), .val (.int (3 : Int32)), .val (.int (0 : Int32)), .val (.int (1 : Int32)), .val (.int (1 : Int32)), .val (.int (1 : Int32)), .val (.long v_l30), .second] []))
  refine Gd.go (fun _ w_k => XS.iload X16.here hx rfl (hb hby d19_111) rfl (XS.iload X16.here hx rfl (hb hby d19_113) rfl (XS.icmpNo X16.here hx rfl (hb hby d19_115) rfl (feq (by decide)).1 w_k))) ?_
  show Gd _ _ _ _ (T16.setTop (mkF m 118 #[.val (.ref (ad 0)), .val (.ref (ad 4)), .val (.ref (ad 7)), .val (.ref (ad 6)), .val (.ref (ad 5)), .val (.ref (ad 8)), .val (.ref (ad 10)), .val (.int (0 : Int32)), .val (.int (3 : Int32)), .val (.int (0 : Int32)), .val (.int (1 : Int32)), .val (.int (1 : Int32)), .val (.int (1 : Int32)), .val (.long v_l30), .second] []))
  refine Gd.go (fun _ w_k => XS.iload X16.here hx rfl (hb hby d19_118) rfl (XS.iload X16.here hx rfl (hb hby d19_120) rfl (XS.icmpYes X16.here hx rfl (pc0 := 122) (pc' := 186) rfl (hb hby d19_122) rfl (flt (by decide)).2.1 (by decide) (by decide) w_k))) ?_
  show Gd _ _ _ _ (T16.setTop (mkF m 186 #[.val (.ref (ad 0)), .val (.ref (ad 4)), .val (.ref (ad 7)), .val (.ref (ad 6)), .val (.ref (ad 5)), .val (.ref (ad 8)), .val (.ref (ad 10)), .val (.int (0 : Int32)), .val (.int (3 : Int32)), .val (.int (0 : Int32)), .val (.int (1 : Int32)), .val (.int (1 : Int32)), .val (.int (1 : Int32)), .val (.long v_l30), .second] []))
  refine Gd.go (fun _ w_k => XS.aloadN X16.here hx rfl (hb hby d19_186) rfl rfl (XS.iload X16.here hx rfl (hb hby d19_187) rfl (own_ldJ X16 hx hZ e16 H17.2.2.2.2.2.2.2.2.2.2.2.2.2.2.2.2.2.2.2.2.2.2.2.2.2.2.2.2.2.2.2.2.1 (j := (1 : Int32)) (by decide) (by decide) (v := (.long v_l31)) rfl (g := (mkF m 189 #[.val (.ref (ad 0)), .val (.ref (ad 4)), .val (.ref (ad 7)), .val (.ref (ad 6)), .val (.ref (ad 5)), .val (.ref (ad 8)), .val (.ref (ad 10)), .val (.int (0 : Int32)), .val (.int (3 : Int32)), .val (.int (0 : Int32)), .val (.int (1 : Int32)), .val (.int (1 : Int32)), .val (.int (1 : Int32)), .val (.long v_l30), .second] [(.int (1 : Int32)), (.ref (ad 6))])) rfl rfl (hb hby d19_189) _ (XS.lstore X16.here hx rfl (hb hby d19_190) rfl (l' := #[.val (.ref (ad 0)), .val (.ref (ad 4)), .val (.ref (ad 7)), .val (.ref (ad 6)), .val (.ref (ad 5)), .val (.ref (ad 8)), .val (.ref (ad 10)), .val (.int (0 : Int32)), .val (.int (3 : Int32)), .val (.int (0 : Int32)), .val (.int (1 : Int32)), .val (.int (1 : Int32)), .val (.int (1 : Int32)), .val (.long v_l31), .second]) rfl (XS.aload X16.here hx rfl (hb hby d19_192) rfl rfl (XS.iload X16.here hx rfl (hb hby d19_194) rfl (XS.lload X16.here hx rfl (hb hby d19_196) rfl w_k))))))) ?_
  show Gd _ _ _ _ (T16.setTop (mkF m 198 #[.val (.ref (ad 0)), .val (.ref (ad 4)), .val (.ref (ad 7)), .val (.ref (ad 6)), .val (.ref (ad 5)), .val (.ref (ad 8)), .val (.ref (ad 10)), .val (.int (0 : Int32)), .val (.int (3 : Int32)), .val (.int (0 : Int32)), .val (.int (1 : Int32)), .val (.int (1 : Int32)), .val (.int (1 : Int32)), .val (.long v_l31), .second] [(.long v_l31), (.int (1 : Int32)), (.ref (ad 5))]))
  obtain ⟨T19, h19, X19, e19, W19, st19⟩ := own_stJ X16 hx hZ e16 H17.2.2.2.2.2.2.2.2.2.2.2.2.2.2.2.2.2.2.2.2.2.2.2.2.2.2.2.2.2.2.2.1 (j := (1 : Int32)) (by decide) (by decide) (g := (mkF m 198 #[.val (.ref (ad 0)), .val (.ref (ad 4)), .val (.ref (ad 7)), .val (.ref (ad 6)), .val (.ref (ad 5)), .val (.ref (ad 8)), .val (.ref (ad 10)), .val (.int (0 : Int32)), .val (.int (3 : Int32)), .val (.int (0 : Int32)), .val (.int (1 : Int32)), .val (.int (1 : Int32)), .val (.int (1 : Int32)), .val (.long v_l31), .second] [(.long v_l31), (.int (1 : Int32)), (.ref (ad 5))])) rfl rfl (hb hby d19_198)
  refine Gd.go (fun _ w_k => st19 _ w_k) ?_
  have H20 := own_w_l21 hw H17 W19
  have xN21 := Fr.snoc X19 xN18 (H.2.1 5 (by decide))
  show Gd _ _ _ _ (T19.setTop (mkF m 199 #[.val (.ref (ad 0)), .val (.ref (ad 4)), .val (.ref (ad 7)), .val (.ref (ad 6)), .val (.ref (ad 5)), .val (.ref (ad 8)), .val (.ref (ad 10)), .val (.int (0 : Int32)), .val (.int (3 : Int32)), .val (.int (0 : Int32)), .val (.int (1 : Int32)), .val (.int (1 : Int32)), .val (.int (1 : Int32)), .val (.long v_l31), .second] []))
  refine Gd.go (fun _ w_k => XS.aload X19.here hx rfl (hb hby d19_199) rfl rfl (XS.iload X19.here hx rfl (hb hby d19_201) rfl (XS.iinc X19.here hx rfl (hb hby d19_203) rfl (l' := #[.val (.ref (ad 0)), .val (.ref (ad 4)), .val (.ref (ad 7)), .val (.ref (ad 6)), .val (.ref (ad 5)), .val (.ref (ad 8)), .val (.ref (ad 10)), .val (.int (0 : Int32)), .val (.int (3 : Int32)), .val (.int (0 : Int32)), .val (.int (1 : Int32)), .val (.int ((1 : Int32) + (1 : Int32))), .val (.int (1 : Int32)), .val (.long v_l31), .second]) rfl w_k))) ?_
  show Gd _ _ _ _ (T19.setTop (mkF m 206 #[.val (.ref (ad 0)), .val (.ref (ad 4)), .val (.ref (ad 7)), .val (.ref (ad 6)), .val (.ref (ad 5)), .val (.ref (ad 8)), .val (.ref (ad 10)), .val (.int (0 : Int32)), .val (.int (3 : Int32)), .val (.int (0 : Int32)), .val (.int (1 : Int32)), .val (.int ((1 : Int32) + (1 : Int32))), .val (.int (1 : Int32)), .val (.long v_l31), .second] [(.int (1 : Int32)), (.ref (ad 8))]))
  rw [show ((1 : Int32) + (1 : Int32)) = (2 : Int32) from by decide]
  show Gd _ _ _ _ (T19.setTop (mkF m 206 #[.val (.ref (ad 0)), .val (.ref (ad 4)), .val (.ref (ad 7)), .val (.ref (ad 6)), .val (.ref (ad 5)), .val (.ref (ad 8)), .val (.ref (ad 10)), .val (.int (0 : Int32)), .val (.int (3 : Int32)), .val (.int (0 : Int32)), .val (.int (1 : Int32)), .val (.int (2 : Int32)), .val (.int (1 : Int32)), .val (.long v_l31), .second] [(.int (1 : Int32)), (.ref (ad 8))]))
  refine Gd.go (fun _ w_k => XS.aload X19.here hx rfl (hb hby d19_206) rfl rfl (XS.lload X19.here hx rfl (hb hby d19_208) rfl (XS.aloadN X19.here hx rfl (hb hby d19_210) rfl rfl w_k))) ?_
  show Gd _ _ _ _ (T19.setTop (mkF m 211 #[.val (.ref (ad 0)), .val (.ref (ad 4)), .val (.ref (ad 7)), .val (.ref (ad 6)), .val (.ref (ad 5)), .val (.ref (ad 8)), .val (.ref (ad 10)), .val (.int (0 : Int32)), .val (.int (3 : Int32)), .val (.int (0 : Int32)), .val (.int (1 : Int32)), .val (.int (2 : Int32)), .val (.int (1 : Int32)), .val (.long v_l31), .second] [(.ref (ad 0)), (.long v_l31), (.ref (ad 10)), (.int (1 : Int32)), (.ref (ad 8))]))
  obtain ⟨T22, X22, e22, st22⟩ := getF X19 hx hZ hown (host := "") (Or.inl (ow hw 43 rfl)) Via.refl e19 H20.2.2.2.2.2.2.2.2.2.2.2.1 (g := (mkF m 211 #[.val (.ref (ad 0)), .val (.ref (ad 4)), .val (.ref (ad 7)), .val (.ref (ad 6)), .val (.ref (ad 5)), .val (.ref (ad 8)), .val (.ref (ad 10)), .val (.int (0 : Int32)), .val (.int (3 : Int32)), .val (.int (0 : Int32)), .val (.int (1 : Int32)), .val (.int (2 : Int32)), .val (.int (1 : Int32)), .val (.long v_l31), .second] [(.ref (ad 0)), (.long v_l31), (.ref (ad 10)), (.int (1 : Int32)), (.ref (ad 8))])) rfl rfl (hb hby d19_211)
  refine Gd.go (fun _ w_k => st22 _ (XS.land X22.here hx rfl (hb hby d19_214) rfl (XS.l2i X22.here hx rfl (hb hby d19_215) rfl (own_ldI X22 hx hZ e22 H20.2.2.2.2.2.2.2.2.2.2.2.2.2.2.2.2.2.2.2.2.2.2.2.2.2.2.2.2.2.2.2.2.2.2.2.2 (j := ((v_l31 &&& (3 : Int64)).toInt32)) g1.1 g1.2 (v := (.int (own_k (0 : Int32) (0 : Int32) (0 : Int32) ((v_l31 &&& (3 : Int64)).toInt32)))) (own_kI g1) (g := (mkF m 216 #[.val (.ref (ad 0)), .val (.ref (ad 4)), .val (.ref (ad 7)), .val (.ref (ad 6)), .val (.ref (ad 5)), .val (.ref (ad 8)), .val (.ref (ad 10)), .val (.int (0 : Int32)), .val (.int (3 : Int32)), .val (.int (0 : Int32)), .val (.int (1 : Int32)), .val (.int (2 : Int32)), .val (.int (1 : Int32)), .val (.long v_l31), .second] [(.int ((v_l31 &&& (3 : Int64)).toInt32)), (.ref (ad 10)), (.int (1 : Int32)), (.ref (ad 8))])) rfl rfl (hb hby d19_216) _ w_k)))) ?_
  show Gd _ _ _ _ (T22.setTop (mkF m 217 #[.val (.ref (ad 0)), .val (.ref (ad 4)), .val (.ref (ad 7)), .val (.ref (ad 6)), .val (.ref (ad 5)), .val (.ref (ad 8)), .val (.ref (ad 10)), .val (.int (0 : Int32)), .val (.int (3 : Int32)), .val (.int (0 : Int32)), .val (.int (1 : Int32)), .val (.int (2 : Int32)), .val (.int (1 : Int32)), .val (.long v_l31), .second] [(.int (own_k (0 : Int32) (0 : Int32) (0 : Int32) ((v_l31 &&& (3 : Int64)).toInt32))), (.int (1 : Int32)), (.ref (ad 8))]))
  rw [own_k0]
  show Gd _ _ _ _ (T22.setTop (mkF m 217 #[.val (.ref (ad 0)), .val (.ref (ad 4)), .val (.ref (ad 7)), .val (.ref (ad 6)), .val (.ref (ad 5)), .val (.ref (ad 8)), .val (.ref (ad 10)), .val (.int (0 : Int32)), .val (.int (3 : Int32)), .val (.int (0 : Int32)), .val (.int (1 : Int32)), .val (.int (2 : Int32)), .val (.int (1 : Int32)), .val (.long v_l31), .second] [(.int (0 : Int32)), (.int (1 : Int32)), (.ref (ad 8))]))
  obtain ⟨T23, h23, X23, e23, W23, st23⟩ := own_stI X22 hx hZ e22 H20.2.2.2.2.2.2.2.2.2.2.2.2.2.2.2.2.2.2.2.2.2.2.2.2.2.2.2.2.2.2.2.2.2.2.1 (j := (1 : Int32)) (by decide) (by decide) (g := (mkF m 217 #[.val (.ref (ad 0)), .val (.ref (ad 4)), .val (.ref (ad 7)), .val (.ref (ad 6)), .val (.ref (ad 5)), .val (.ref (ad 8)), .val (.ref (ad 10)), .val (.int (0 : Int32)), .val (.int (3 : Int32)), .val (.int (0 : Int32)), .val (.int (1 : Int32)), .val (.int (2 : Int32)), .val (.int (1 : Int32)), .val (.long v_l31), .second] [(.int (0 : Int32)), (.int (1 : Int32)), (.ref (ad 8))])) rfl rfl (hb hby d19_217)
  refine Gd.go (fun _ w_k => st23 _ w_k) ?_
  have H24 := own_w_i21 hw H20 W23
  have xN25 := Fr.snoc X23 xN21 (H.2.1 8 (by decide))
  show Gd _ _ _ _ (T23.setTop (mkF m 218 #[.val (.ref (ad 0)), .val (.ref (ad 4)), .val (.ref (ad 7)), .val (.ref (ad 6)), .val (.ref (ad 5)), .val (.ref (ad 8)), .val (.ref (ad 10)), .val (.int (0 : Int32)), .val (.int (3 : Int32)), .val (.int (0 : Int32)), .val (.int (1 : Int32)), .val (.int (2 : Int32)), .val (.int (1 : Int32)), .val (.long v_l31), .second] []))
  refine Gd.go (fun _ w_k => XS.iinc X23.here hx rfl (hb hby d19_218) rfl (l' := #[.val (.ref (ad 0)), .val (.ref (ad 4)), .val (.ref (ad 7)), .val (.ref (ad 6)), .val (.ref (ad 5)), .val (.ref (ad 8)), .val (.ref (ad 10)), .val (.int (0 : Int32)), .val (.int (3 : Int32)), .val (.int (0 : Int32)), .val (.int ((1 : Int32) + (1 : Int32))), .val (.int (2 : Int32)), .val (.int (1 : Int32)), .val (.long v_l31), .second]) rfl w_k) ?_
  show Gd _ _ _ _ (T23.setTop (mkF m 221 #[.val (.ref (ad 0)), .val (.ref (ad 4)), .val (.ref (ad 7)), .val (.ref (ad 6)), .val (.ref (ad 5)), .val (.ref (ad 8)), .val (.ref (ad 10)), .val (.int (0 : Int32)), .val (.int (3 : Int32)), .val (.int (0 : Int32)), .val (.int ((1 : Int32) + (1 : Int32))), .val (.int (2 : Int32)), .val (.int (1 : Int32)), .val (.long v_l31), .second] []))
  rw [show ((1 : Int32) + (1 : Int32)) = (2 : Int32) from by decide]
  show Gd _ _ _ _ (T23.setTop (mkF m 221 #[.val (.ref (ad 0)), .val (.ref (ad 4)), .val (.ref (ad 7)), .val (.ref (ad 6)), .val (.ref (ad 5)), .val (.ref (ad 8)), .val (.ref (ad 10)), .val (.int (0 : Int32)), .val (.int (3 : Int32)), .val (.int (0 : Int32)), .val (.int (2 : Int32)), .val (.int (2 : Int32)), .val (.int (1 : Int32)), .val (.long v_l31), .second] []))
  refine Gd.go (fun _ w_k => XS.iinc X23.here hx rfl (hb hby d19_221) rfl (l' := #[.val (.ref (ad 0)), .val (.ref (ad 4)), .val (.ref (ad 7)), .val (.ref (ad 6)), .val (.ref (ad 5)), .val (.ref (ad 8)), .val (.ref (ad 10)), .val (.int (0 : Int32)), .val (.int (3 : Int32)), .val (.int (0 : Int32)), .val (.int (2 : Int32)), .val (.int (2 : Int32)), .val (.int ((1 : Int32) + (1 : Int32))), .val (.long v_l31), .second]) rfl w_k) ?_
  show Gd _ _ _ _ (T23.setTop (mkF m 224 #[.val (.ref (ad 0)), .val (.ref (ad 4)), .val (.ref (ad 7)), .val (.ref (ad 6)), .val (.ref (ad 5)), .val (.ref (ad 8)), .val (.ref (ad 10)), .val (.int (0 : Int32)), .val (.int (3 : Int32)), .val (.int (0 : Int32)), .val (.int (2 : Int32)), .val (.int (2 : Int32)), .val (.int ((1 : Int32) + (1 : Int32))), .val (.long v_l31), .second] []))
  rw [show ((1 : Int32) + (1 : Int32)) = (2 : Int32) from by decide]
  show Gd _ _ _ _ (T23.setTop (mkF m 224 #[.val (.ref (ad 0)), .val (.ref (ad 4)), .val (.ref (ad 7)), .val (.ref (ad 6)), .val (.ref (ad 5)), .val (.ref (ad 8)), .val (.ref (ad 10)), .val (.int (0 : Int32)), .val (.int (3 : Int32)), .val (.int (0 : Int32)), .val (.int (2 : Int32)), .val (.int (2 : Int32)), .val (.int (2 : Int32)), .val (.long v_l31), .second] []))
  refine Gd.go (fun _ w_k => XS.goto X23.here hx rfl (pc0 := 224) (pc' := 90) rfl (hb hby d19_224) (by decide) (by decide) (XS.iload X23.here hx rfl (hb hby d19_90) rfl (XS.bipush X23.here hx rfl (hb hby d19_92) (XS.icmpNo X23.here hx rfl (hb hby d19_94) rfl (tlt (by decide)).2.1 w_k)))) ?_
  show Gd _ _ _ _ (T23.setTop (mkF m 97 #[.val (.ref (ad 0)), .val (.ref (ad 4)), .val (.ref (ad 7)), .val (.ref (ad 6)), .val (.ref (ad 5)), .val (.ref (ad 8)), .val (.ref (ad 10)), .val (.int (0 : Int32)), .val (.int (3 : Int32)), .val (.int (0 : Int32)), .val (.int (2 : Int32)), .val (.int (2 : Int32)), .val (.int (2 : Int32)), .val (.long v_l31), .second] []))
  refine Gd.go (fun _ w_k => XS.iload X23.here hx rfl (hb hby d19_97) rfl (XS.iload X23.here hx rfl (hb hby d19_99) rfl (XS.icmpNo X23.here hx rfl (hb hby d19_101) rfl (flt (by decide)).1 w_k))) ?_
  show Gd _ _ _ _ (T23.setTop (mkF m 104 #[.val (.ref (ad 0)), .val (.ref (ad 4)), .val (.ref (ad 7)), .val (.ref (ad 6)), .val (.ref (ad 5)), .val (.ref (ad 8)), .val (.ref (ad 10)), .val (.int (0 : Int32)), .val (.int (3 : Int32)), .val (.int (0 : Int32)), .val (.int (2 : Int32)), .val (.int (2 : Int32)), .val (.int (2 : Int32)), .val (.long v_l31), .second] []))
  refine Gd.go (fun _ w_k => XS.iload X23.here hx rfl (hb hby d19_104) rfl (XS.iload X23.here hx rfl (hb hby d19_106) rfl (XS.icmpNo X23.here hx rfl (hb hby d19_108) rfl (tlt (by decide)).2.1 w_k))) ?_
  show Gd _ _ _ _ (T23.setTop (mkF m 111 #[.val (.ref (ad 0)), .val (.ref (ad 4)), .val (.ref (ad 7)), .val (.ref (ad 6)), .val (.ref (ad 5)), .val (.ref (ad 8)), .val (.ref (ad 10)), .val (.int (0 : Int32)), .val (.int (3 : Int32)), .val (.int (0 : Int32)), .val (.int (2 : Int32)), .val (.int (2 : Int32)), .val (.int (2 : Int32)), .val (.long v_l31), .second] []))
  refine Gd.go (fun _ w_k => XS.iload X23.here hx rfl (hb hby d19_111) rfl (XS.iload X23.here hx rfl (hb hby d19_113) rfl (XS.icmpNo X23.here hx rfl (hb hby d19_115) rfl (feq (by decide)).1 w_k))) ?_
  show Gd _ _ _ _ (T23.setTop (mkF m 118 #[.val (.ref (ad 0)), .val (.ref (ad 4)), .val (.ref (ad 7)), .val (.ref (ad 6)), .val (.ref (ad 5)), .val (.ref (ad 8)), .val (.ref (ad 10)), .val (.int (0 : Int32)), .val (.int (3 : Int32)), .val (.int (0 : Int32)), .val (.int (2 : Int32)), .val (.int (2 : Int32)), .val (.int (2 : Int32)), .val (.long v_l31), .second] []))
  refine Gd.go (fun _ w_k => XS.iload X23.here hx rfl (hb hby d19_118) rfl (XS.iload X23.here hx rfl (hb hby d19_120) rfl (XS.icmpYes X23.here hx rfl (pc0 := 122) (pc' := 186) rfl (hb hby d19_122) rfl (flt (by decide)).2.1 (by decide) (by decide) w_k))) ?_
  show Gd _ _ _ _ (T23.setTop (mkF m 186 #[.val (.ref (ad 0)), .val (.ref (ad 4)), .val (.ref (ad 7)), .val (.ref (ad 6)), .val (.ref (ad 5)), .val (.ref (ad 8)), .val (.ref (ad 10)), .val (.int (0 : Int32)), .val (.int (3 : Int32)), .val (.int (0 : Int32)), .val (.int (2 : Int32)), .val (.int (2 : Int32)), .val (.int (2 : Int32)), .val (.long v_l31), .second] []))
  refine Gd.go (fun _ w_k => XS.aloadN X23.here hx rfl (hb hby d19_186) rfl rfl (XS.iload X23.here hx rfl (hb hby d19_187) rfl (own_ldJ X23 hx hZ e23 H24.2.2.2.2.2.2.2.2.2.2.2.2.2.2.2.2.2.2.2.2.2.2.2.2.2.2.2.2.2.2.2.2.1 (j := (2 : Int32)) (by decide) (by decide) (v := (.long v_l32)) rfl (g := (mkF m 189 #[.val (.ref (ad 0)), .val (.ref (ad 4)), .val (.ref (ad 7)), .val (.ref (ad 6)), .val (.ref (ad 5)), .val (.ref (ad 8)), .val (.ref (ad 10)), .val (.int (0 : Int32)), .val (.int (3 : Int32)), .val (.int (0 : Int32)), .val (.int (2 : Int32)), .val (.int (2 : Int32)), .val (.int (2 : Int32)), .val (.long v_l31), .second] [(.int (2 : Int32)), (.ref (ad 6))])) rfl rfl (hb hby d19_189) _ (XS.lstore X23.here hx rfl (hb hby d19_190) rfl (l' := #[.val (.ref (ad 0)), .val (.ref (ad 4)), .val (.ref (ad 7)), .val (.ref (ad 6)), .val (.ref (ad 5)), .val (.ref (ad 8)), .val (.ref (ad 10)), .val (.int (0 : Int32)), .val (.int (3 : Int32)), .val (.int (0 : Int32)), .val (.int (2 : Int32)), .val (.int (2 : Int32)), .val (.int (2 : Int32)), .val (.long v_l32), .second]) rfl (XS.aload X23.here hx rfl (hb hby d19_192) rfl rfl (XS.iload X23.here hx rfl (hb hby d19_194) rfl (XS.lload X23.here hx rfl (hb hby d19_196) rfl w_k))))))) ?_
  show Gd _ _ _ _ (T23.setTop (mkF m 198 #[.val (.ref (ad 0)), .val (.ref (ad 4)), .val (.ref (ad 7)), .val (.ref (ad 6)), .val (.ref (ad 5)), .val (.ref (ad 8)), .val (.ref (ad 10)), .val (.int (0 : Int32)), .val (.int (3 : Int32)), .val (.int (0 : Int32)), .val (.int (2 : Int32)), .val (.int (2 : Int32)), .val (.int (2 : Int32)), .val (.long v_l32), .second] [(.long v_l32), (.int (2 : Int32)), (.ref (ad 5))]))
  obtain ⟨T26, h26, X26, e26, W26, st26⟩ := own_stJ X23 hx hZ e23 H24.2.2.2.2.2.2.2.2.2.2.2.2.2.2.2.2.2.2.2.2.2.2.2.2.2.2.2.2.2.2.2.1 (j := (2 : Int32)) (by decide) (by decide) (g := (mkF m 198 #[.val (.ref (ad 0)), .val (.ref (ad 4)), .val (.ref (ad 7)), .val (.ref (ad 6)), .val (.ref (ad 5)), .val (.ref (ad 8)), .val (.ref (ad 10)), .val (.int (0 : Int32)), .val (.int (3 : Int32)), .val (.int (0 : Int32)), .val (.int (2 : Int32)), .val (.int (2 : Int32)), .val (.int (2 : Int32)), .val (.long v_l32), .second] [(.long v_l32), (.int (2 : Int32)), (.ref (ad 5))])) rfl rfl (hb hby d19_198)
  refine Gd.go (fun _ w_k => st26 _ w_k) ?_
  have H27 := own_w_l22 hw H24 W26
  have xN28 := Fr.snoc X26 xN25 (H.2.1 5 (by decide))
  show Gd _ _ _ _ (T26.setTop (mkF m 199 #[.val (.ref (ad 0)), .val (.ref (ad 4)), .val (.ref (ad 7)), .val (.ref (ad 6)), .val (.ref (ad 5)), .val (.ref (ad 8)), .val (.ref (ad 10)), .val (.int (0 : Int32)), .val (.int (3 : Int32)), .val (.int (0 : Int32)), .val (.int (2 : Int32)), .val (.int (2 : Int32)), .val (.int (2 : Int32)), .val (.long v_l32), .second] []))
  refine Gd.go (fun _ w_k => XS.aload X26.here hx rfl (hb hby d19_199) rfl rfl (XS.iload X26.here hx rfl (hb hby d19_201) rfl (XS.iinc X26.here hx rfl (hb hby d19_203) rfl (l' := #[.val (.ref (ad 0)), .val (.ref (ad 4)), .val (.ref (ad 7)), .val (.ref (ad 6)), .val (.ref (ad 5)), .val (.ref (ad 8)), .val (.ref (ad 10)), .val (.int (0 : Int32)), .val (.int (3 : Int32)), .val (.int (0 : Int32)), .val (.int (2 : Int32)), .val (.int ((2 : Int32) + (1 : Int32))), .val (.int (2 : Int32)), .val (.long v_l32), .second]) rfl w_k))) ?_
  show Gd _ _ _ _ (T26.setTop (mkF m 206 #[.val (.ref (ad 0)), .val (.ref (ad 4)), .val (.ref (ad 7)), .val (.ref (ad 6)), .val (.ref (ad 5)), .val (.ref (ad 8)), .val (.ref (ad 10)), .val (.int (0 : Int32)), .val (.int (3 : Int32)), .val (.int (0 : Int32)), .val (.int (2 : Int32)), .val (.int ((2 : Int32) + (1 : Int32))), .val (.int (2 : Int32)), .val (.long v_l32), .second] [(.int (2 : Int32)), (.ref (ad 8))]))
  rw [show ((2 : Int32) + (1 : Int32)) = (3 : Int32) from by decide]
  show Gd _ _ _ _ (T26.setTop (mkF m 206 #[.val (.ref (ad 0)), .val (.ref (ad 4)), .val (.ref (ad 7)), .val (.ref (ad 6)), .val (.ref (ad 5)), .val (.ref (ad 8)), .val (.ref (ad 10)), .val (.int (0 : Int32)), .val (.int (3 : Int32)), .val (.int (0 : Int32)), .val (.int (2 : Int32)), .val (.int (3 : Int32)), .val (.int (2 : Int32)), .val (.long v_l32), .second] [(.int (2 : Int32)), (.ref (ad 8))]))
  refine Gd.go (fun _ w_k => XS.aload X26.here hx rfl (hb hby d19_206) rfl rfl (XS.lload X26.here hx rfl (hb hby d19_208) rfl (XS.aloadN X26.here hx rfl (hb hby d19_210) rfl rfl w_k))) ?_
  show Gd _ _ _ _ (T26.setTop (mkF m 211 #[.val (.ref (ad 0)), .val (.ref (ad 4)), .val (.ref (ad 7)), .val (.ref (ad 6)), .val (.ref (ad 5)), .val (.ref (ad 8)), .val (.ref (ad 10)), .val (.int (0 : Int32)), .val (.int (3 : Int32)), .val (.int (0 : Int32)), .val (.int (2 : Int32)), .val (.int (3 : Int32)), .val (.int (2 : Int32)), .val (.long v_l32), .second] [(.ref (ad 0)), (.long v_l32), (.ref (ad 10)), (.int (2 : Int32)), (.ref (ad 8))]))
  obtain ⟨T29, X29, e29, st29⟩ := getF X26 hx hZ hown (host := "") (Or.inl (ow hw 43 rfl)) Via.refl e26 H27.2.2.2.2.2.2.2.2.2.2.2.1 (g := (mkF m 211 #[.val (.ref (ad 0)), .val (.ref (ad 4)), .val (.ref (ad 7)), .val (.ref (ad 6)), .val (.ref (ad 5)), .val (.ref (ad 8)), .val (.ref (ad 10)), .val (.int (0 : Int32)), .val (.int (3 : Int32)), .val (.int (0 : Int32)), .val (.int (2 : Int32)), .val (.int (3 : Int32)), .val (.int (2 : Int32)), .val (.long v_l32), .second] [(.ref (ad 0)), (.long v_l32), (.ref (ad 10)), (.int (2 : Int32)), (.ref (ad 8))])) rfl rfl (hb hby d19_211)
  refine Gd.go (fun _ w_k => st29 _ (XS.land X29.here hx rfl (hb hby d19_214) rfl (XS.l2i X29.here hx rfl (hb hby d19_215) rfl (own_ldI X29 hx hZ e29 H27.2.2.2.2.2.2.2.2.2.2.2.2.2.2.2.2.2.2.2.2.2.2.2.2.2.2.2.2.2.2.2.2.2.2.2.2 (j := ((v_l32 &&& (3 : Int64)).toInt32)) g2.1 g2.2 (v := (.int (own_k (0 : Int32) (0 : Int32) (0 : Int32) ((v_l32 &&& (3 : Int64)).toInt32)))) (own_kI g2) (g := (mkF m 216 #[.val (.ref (ad 0)), .val (.ref (ad 4)), .val (.ref (ad 7)), .val (.ref (ad 6)), .val (.ref (ad 5)), .val (.ref (ad 8)), .val (.ref (ad 10)), .val (.int (0 : Int32)), .val (.int (3 : Int32)), .val (.int (0 : Int32)), .val (.int (2 : Int32)), .val (.int (3 : Int32)), .val (.int (2 : Int32)), .val (.long v_l32), .second] [(.int ((v_l32 &&& (3 : Int64)).toInt32)), (.ref (ad 10)), (.int (2 : Int32)), (.ref (ad 8))])) rfl rfl (hb hby d19_216) _ w_k)))) ?_
  show Gd _ _ _ _ (T29.setTop (mkF m 217 #[.val (.ref (ad 0)), .val (.ref (ad 4)), .val (.ref (ad 7)), .val (.ref (ad 6)), .val (.ref (ad 5)), .val (.ref (ad 8)), .val (.ref (ad 10)), .val (.int (0 : Int32)), .val (.int (3 : Int32)), .val (.int (0 : Int32)), .val (.int (2 : Int32)), .val (.int (3 : Int32)), .val (.int (2 : Int32)), .val (.long v_l32), .second] [(.int (own_k (0 : Int32) (0 : Int32) (0 : Int32) ((v_l32 &&& (3 : Int64)).toInt32))), (.int (2 : Int32)), (.ref (ad 8))]))
  rw [own_k0]
  show Gd _ _ _ _ (T29.setTop (mkF m 217 #[.val (.ref (ad 0)), .val (.ref (ad 4)), .val (.ref (ad 7)), .val (.ref (ad 6)), .val (.ref (ad 5)), .val (.ref (ad 8)), .val (.ref (ad 10)), .val (.int (0 : Int32)), .val (.int (3 : Int32)), .val (.int (0 : Int32)), .val (.int (2 : Int32)), .val (.int (3 : Int32)), .val (.int (2 : Int32)), .val (.long v_l32), .second] [(.int (0 : Int32)), (.int (2 : Int32)), (.ref (ad 8))]))
  obtain ⟨T30, h30, X30, e30, W30, st30⟩ := own_stI X29 hx hZ e29 H27.2.2.2.2.2.2.2.2.2.2.2.2.2.2.2.2.2.2.2.2.2.2.2.2.2.2.2.2.2.2.2.2.2.2.1 (j := (2 : Int32)) (by decide) (by decide) (g := (mkF m 217 #[.val (.ref (ad 0)), .val (.ref (ad 4)), .val (.ref (ad 7)), .val (.ref (ad 6)), .val (.ref (ad 5)), .val (.ref (ad 8)), .val (.ref (ad 10)), .val (.int (0 : Int32)), .val (.int (3 : Int32)), .val (.int (0 : Int32)), .val (.int (2 : Int32)), .val (.int (3 : Int32)), .val (.int (2 : Int32)), .val (.long v_l32), .second] [(.int (0 : Int32)), (.int (2 : Int32)), (.ref (ad 8))])) rfl rfl (hb hby d19_217)
  refine Gd.go (fun _ w_k => st30 _ w_k) ?_
  have H31 := own_w_i22 hw H27 W30
  have xN32 := Fr.snoc X30 xN28 (H.2.1 8 (by decide))
  show Gd _ _ _ _ (T30.setTop (mkF m 218 #[.val (.ref (ad 0)), .val (.ref (ad 4)), .val (.ref (ad 7)), .val (.ref (ad 6)), .val (.ref (ad 5)), .val (.ref (ad 8)), .val (.ref (ad 10)), .val (.int (0 : Int32)), .val (.int (3 : Int32)), .val (.int (0 : Int32)), .val (.int (2 : Int32)), .val (.int (3 : Int32)), .val (.int (2 : Int32)), .val (.long v_l32), .second] []))
  refine Gd.go (fun _ w_k => XS.iinc X30.here hx rfl (hb hby d19_218) rfl (l' := #[.val (.ref (ad 0)), .val (.ref (ad 4)), .val (.ref (ad 7)), .val (.ref (ad 6)), .val (.ref (ad 5)), .val (.ref (ad 8)), .val (.ref (ad 10)), .val (.int (0 : Int32)), .val (.int (3 : Int32)), .val (.int (0 : Int32)), .val (.int ((2 : Int32) + (1 : Int32))), .val (.int (3 : Int32)), .val (.int (2 : Int32)), .val (.long v_l32), .second]) rfl w_k) ?_
  show Gd _ _ _ _ (T30.setTop (mkF m 221 #[.val (.ref (ad 0)), .val (.ref (ad 4)), .val (.ref (ad 7)), .val (.ref (ad 6)), .val (.ref (ad 5)), .val (.ref (ad 8)), .val (.ref (ad 10)), .val (.int (0 : Int32)), .val (.int (3 : Int32)), .val (.int (0 : Int32)), .val (.int ((2 : Int32) + (1 : Int32))), .val (.int (3 : Int32)), .val (.int (2 : Int32)), .val (.long v_l32), .second] []))
  rw [show ((2 : Int32) + (1 : Int32)) = (3 : Int32) from by decide]
  show Gd _ _ _ _ (T30.setTop (mkF m 221 #[.val (.ref (ad 0)), .val (.ref (ad 4)), .val (.ref (ad 7)), .val (.ref (ad 6)), .val (.ref (ad 5)), .val (.ref (ad 8)), .val (.ref (ad 10)), .val (.int (0 : Int32)), .val (.int (3 : Int32)), .val (.int (0 : Int32)), .val (.int (3 : Int32)), .val (.int (3 : Int32)), .val (.int (2 : Int32)), .val (.long v_l32), .second] []))
  refine Gd.go (fun _ w_k => XS.iinc X30.here hx rfl (hb hby d19_221) rfl (l' := #[.val (.ref (ad 0)), .val (.ref (ad 4)), .val (.ref (ad 7)), .val (.ref (ad 6)), .val (.ref (ad 5)), .val (.ref (ad 8)), .val (.ref (ad 10)), .val (.int (0 : Int32)), .val (.int (3 : Int32)), .val (.int (0 : Int32)), .val (.int (3 : Int32)), .val (.int (3 : Int32)), .val (.int ((2 : Int32) + (1 : Int32))), .val (.long v_l32), .second]) rfl w_k) ?_
  show Gd _ _ _ _ (T30.setTop (mkF m 224 #[.val (.ref (ad 0)), .val (.ref (ad 4)), .val (.ref (ad 7)), .val (.ref (ad 6)), .val (.ref (ad 5)), .val (.ref (ad 8)), .val (.ref (ad 10)), .val (.int (0 : Int32)), .val (.int (3 : Int32)), .val (.int (0 : Int32)), .val (.int (3 : Int32)), .val (.int (3 : Int32)), .val (.int ((2 : Int32) + (1 : Int32))), .val (.long v_l32), .second] []))
  rw [show ((2 : Int32) + (1 : Int32)) = (3 : Int32) from by decide]
  show Gd _ _ _ _ (T30.setTop (mkF m 224 #[.val (.ref (ad 0)), .val (.ref (ad 4)), .val (.ref (ad 7)), .val (.ref (ad 6)), .val (.ref (ad 5)), .val (.ref (ad 8)), .val (.ref (ad 10)), .val (.int (0 : Int32)), .val (.int (3 : Int32)), .val (.int (0 : Int32)), .val (.int (3 : Int32)), .val (.int (3 : Int32)), .val (.int (3 : Int32)), .val (.long v_l32), .second] []))
  refine Gd.go (fun _ w_k => XS.goto X30.here hx rfl (pc0 := 224) (pc' := 90) rfl (hb hby d19_224) (by decide) (by decide) (XS.iload X30.here hx rfl (hb hby d19_90) rfl (XS.bipush X30.here hx rfl (hb hby d19_92) (XS.icmpNo X30.here hx rfl (hb hby d19_94) rfl (tlt (by decide)).2.1 w_k)))) ?_
  show Gd _ _ _ _ (T30.setTop (mkF m 97 #[.val (.ref (ad 0)), .val (.ref (ad 4)), .val (.ref (ad 7)), .val (.ref (ad 6)), .val (.ref (ad 5)), .val (.ref (ad 8)), .val (.ref (ad 10)), .val (.int (0 : Int32)), .val (.int (3 : Int32)), .val (.int (0 : Int32)), .val (.int (3 : Int32)), .val (.int (3 : Int32)), .val (.int (3 : Int32)), .val (.long v_l32), .second] []))
  refine Gd.go (fun _ w_k => XS.iload X30.here hx rfl (hb hby d19_97) rfl (XS.iload X30.here hx rfl (hb hby d19_99) rfl (XS.icmpNo X30.here hx rfl (hb hby d19_101) rfl (flt (by decide)).1 w_k))) ?_
  show Gd _ _ _ _ (T30.setTop (mkF m 104 #[.val (.ref (ad 0)), .val (.ref (ad 4)), .val (.ref (ad 7)), .val (.ref (ad 6)), .val (.ref (ad 5)), .val (.ref (ad 8)), .val (.ref (ad 10)), .val (.int (0 : Int32)), .val (.int (3 : Int32)), .val (.int (0 : Int32)), .val (.int (3 : Int32)), .val (.int (3 : Int32)), .val (.int (3 : Int32)), .val (.long v_l32), .second] []))
  refine Gd.go (fun _ w_k => XS.iload X30.here hx rfl (hb hby d19_104) rfl (XS.iload X30.here hx rfl (hb hby d19_106) rfl (XS.icmpYes X30.here hx rfl (pc0 := 108) (pc' := 227) rfl (hb hby d19_108) rfl (flt (by decide)).2.1 (by decide) (by decide) w_k))) ?_
  show Gd _ _ _ _ (T30.setTop (mkF m 227 #[.val (.ref (ad 0)), .val (.ref (ad 4)), .val (.ref (ad 7)), .val (.ref (ad 6)), .val (.ref (ad 5)), .val (.ref (ad 8)), .val (.ref (ad 10)), .val (.int (0 : Int32)), .val (.int (3 : Int32)), .val (.int (0 : Int32)), .val (.int (3 : Int32)), .val (.int (3 : Int32)), .val (.int (3 : Int32)), .val (.long v_l32), .second] []))
  refine Gd.go (fun _ w_k => XS.aloadN X30.here hx rfl (hb hby d19_227) rfl rfl (XS.iload X30.here hx rfl (hb hby d19_228) rfl w_k)) ?_
  show Gd _ _ _ _ (T30.setTop (mkF m 230 #[.val (.ref (ad 0)), .val (.ref (ad 4)), .val (.ref (ad 7)), .val (.ref (ad 6)), .val (.ref (ad 5)), .val (.ref (ad 8)), .val (.ref (ad 10)), .val (.int (0 : Int32)), .val (.int (3 : Int32)), .val (.int (0 : Int32)), .val (.int (3 : Int32)), .val (.int (3 : Int32)), .val (.int (3 : Int32)), .val (.long v_l32), .second] [(.int (0 : Int32)), (.ref (ad 0))]))
  obtain ⟨T33, h33, X33, e33, W33, st33⟩ := putF X30 hx hZ hown (host := "") (Or.inl (ow hw 116 rfl)) Via.refl e30 H31.2.2.2.2.2.2.2.2.2.2.2.2.2.2.1 H31.2.2.1 (Or.inl (ow hw 117 rfl)) (ow hw 3 rfl) (ty := .int) (by decide) rfl rfl (g := (mkF m 230 #[.val (.ref (ad 0)), .val (.ref (ad 4)), .val (.ref (ad 7)), .val (.ref (ad 6)), .val (.ref (ad 5)), .val (.ref (ad 8)), .val (.ref (ad 10)), .val (.int (0 : Int32)), .val (.int (3 : Int32)), .val (.int (0 : Int32)), .val (.int (3 : Int32)), .val (.int (3 : Int32)), .val (.int (3 : Int32)), .val (.long v_l32), .second] [(.int (0 : Int32)), (.ref (ad 0))])) rfl rfl (hb hby d19_230)
  refine Gd.go (fun _ w_k => st33 _ w_k) ?_
  have H34 := own_w_ra hw H31 W33
  have xN35 := Fr.snoc X33 xN32 (H.2.1 0 (by decide))
  show Gd _ _ _ _ (T33.setTop (mkF m 233 #[.val (.ref (ad 0)), .val (.ref (ad 4)), .val (.ref (ad 7)), .val (.ref (ad 6)), .val (.ref (ad 5)), .val (.ref (ad 8)), .val (.ref (ad 10)), .val (.int (0 : Int32)), .val (.int (3 : Int32)), .val (.int (0 : Int32)), .val (.int (3 : Int32)), .val (.int (3 : Int32)), .val (.int (3 : Int32)), .val (.long v_l32), .second] []))
  refine Gd.go (fun _ w_k => XS.aloadN X33.here hx rfl (hb hby d19_233) rfl rfl (XS.iload X33.here hx rfl (hb hby d19_234) rfl w_k)) ?_
  show Gd _ _ _ _ (T33.setTop (mkF m 236 #[.val (.ref (ad 0)), .val (.ref (ad 4)), .val (.ref (ad 7)), .val (.ref (ad 6)), .val (.ref (ad 5)), .val (.ref (ad 8)), .val (.ref (ad 10)), .val (.int (0 : Int32)), .val (.int (3 : Int32)), .val (.int (0 : Int32)), .val (.int (3 : Int32)), .val (.int (3 : Int32)), .val (.int (3 : Int32)), .val (.long v_l32), .second] [(.int (3 : Int32)), (.ref (ad 0))]))
  obtain ⟨T36, h36, X36, e36, W36, st36⟩ := putF X33 hx hZ hown (host := "") (Or.inl (ow hw 81 rfl)) Via.refl e33 H34.2.2.2.2.2.2.2.2.2.2.2.2.2.2.2.1 H34.2.2.1 (Or.inl (ow hw 82 rfl)) (ow hw 3 rfl) (ty := .int) (by decide) rfl rfl (g := (mkF m 236 #[.val (.ref (ad 0)), .val (.ref (ad 4)), .val (.ref (ad 7)), .val (.ref (ad 6)), .val (.ref (ad 5)), .val (.ref (ad 8)), .val (.ref (ad 10)), .val (.int (0 : Int32)), .val (.int (3 : Int32)), .val (.int (0 : Int32)), .val (.int (3 : Int32)), .val (.int (3 : Int32)), .val (.int (3 : Int32)), .val (.long v_l32), .second] [(.int (3 : Int32)), (.ref (ad 0))])) rfl rfl (hb hby d19_236)
  refine Gd.go (fun _ w_k => st36 _ w_k) ?_
  have H37 := own_w_fa hw H34 W36
  have xN38 := Fr.snoc X36 xN35 (H.2.1 0 (by decide))
  show Gd _ _ _ _ (T36.setTop (mkF m 239 #[.val (.ref (ad 0)), .val (.ref (ad 4)), .val (.ref (ad 7)), .val (.ref (ad 6)), .val (.ref (ad 5)), .val (.ref (ad 8)), .val (.ref (ad 10)), .val (.int (0 : Int32)), .val (.int (3 : Int32)), .val (.int (0 : Int32)), .val (.int (3 : Int32)), .val (.int (3 : Int32)), .val (.int (3 : Int32)), .val (.long v_l32), .second] []))
  refine Gd.go (fun _ w_k => XS.aloadN X36.here hx rfl (hb hby d19_239) rfl rfl w_k) ?_
  show Gd _ _ _ _ (T36.setTop (mkF m 240 #[.val (.ref (ad 0)), .val (.ref (ad 4)), .val (.ref (ad 7)), .val (.ref (ad 6)), .val (.ref (ad 5)), .val (.ref (ad 8)), .val (.ref (ad 10)), .val (.int (0 : Int32)), .val (.int (3 : Int32)), .val (.int (0 : Int32)), .val (.int (3 : Int32)), .val (.int (3 : Int32)), .val (.int (3 : Int32)), .val (.long v_l32), .second] [(.ref (ad 0))]))
  obtain ⟨T39, X39, e39, st39⟩ := getF X36 hx hZ hown (host := "") (Or.inl (ow hw 26 rfl)) Via.refl e36 H37.2.2.2.2.2.2.2.1 (g := (mkF m 240 #[.val (.ref (ad 0)), .val (.ref (ad 4)), .val (.ref (ad 7)), .val (.ref (ad 6)), .val (.ref (ad 5)), .val (.ref (ad 8)), .val (.ref (ad 10)), .val (.int (0 : Int32)), .val (.int (3 : Int32)), .val (.int (0 : Int32)), .val (.int (3 : Int32)), .val (.int (3 : Int32)), .val (.int (3 : Int32)), .val (.long v_l32), .second] [(.ref (ad 0))])) rfl rfl (hb hby d19_240)
  refine Gd.go (fun _ w_k => st39 _ (XS.iload X39.here hx rfl (hb hby d19_243) rfl w_k)) ?_
  show Gd _ _ _ _ (T39.setTop (mkF m 245 #[.val (.ref (ad 0)), .val (.ref (ad 4)), .val (.ref (ad 7)), .val (.ref (ad 6)), .val (.ref (ad 5)), .val (.ref (ad 8)), .val (.ref (ad 10)), .val (.int (0 : Int32)), .val (.int (3 : Int32)), .val (.int (0 : Int32)), .val (.int (3 : Int32)), .val (.int (3 : Int32)), .val (.int (3 : Int32)), .val (.long v_l32), .second] [(.int (3 : Int32)), (.ref (ad 2))]))
  obtain ⟨T40, h40, X40, e40, W40, st40⟩ := own_putR X39 hx hZ hown (ow hw 78 rfl) e39 H37.2.2.2.2.2.2.2.2.2.2.2.2.2.2.2.2.2.2.2.2.2.2.2.2.2.2.1 H37.2.2.2.2.1 (ow hw 72 rfl) (ow hw 12 rfl) (ty := .int) (by decide) rfl rfl (g := (mkF m 245 #[.val (.ref (ad 0)), .val (.ref (ad 4)), .val (.ref (ad 7)), .val (.ref (ad 6)), .val (.ref (ad 5)), .val (.ref (ad 8)), .val (.ref (ad 10)), .val (.int (0 : Int32)), .val (.int (3 : Int32)), .val (.int (0 : Int32)), .val (.int (3 : Int32)), .val (.int (3 : Int32)), .val (.int (3 : Int32)), .val (.long v_l32), .second] [(.int (3 : Int32)), (.ref (ad 2))])) rfl rfl (hb hby d19_245)
  refine Gd.go (fun _ w_k => st40 _ w_k) ?_
  have H41 := own_w_c2 hw H37 W40
  have xN42 := Fr.snoc X40 xN38 (H.2.1 2 (by decide))
  show Gd _ _ _ _ (T40.setTop (mkF m 248 #[.val (.ref (ad 0)), .val (.ref (ad 4)), .val (.ref (ad 7)), .val (.ref (ad 6)), .val (.ref (ad 5)), .val (.ref (ad 8)), .val (.ref (ad 10)), .val (.int (0 : Int32)), .val (.int (3 : Int32)), .val (.int (0 : Int32)), .val (.int (3 : Int32)), .val (.int (3 : Int32)), .val (.int (3 : Int32)), .val (.long v_l32), .second] []))
  refine own_retV X40 hx hret hlk (hb hby d19_248) ?_ (by decide) (by decide)
  rw [e40]
  exact ⟨rfl, H41, xN42⟩
theorem own_srt_ix {x y z a b c : Int64} {P : Int64 → Prop} (hs : own_srt x y z a b c) (h1 : P x) (h2 : P y) (h3 : P z) : P a ∧ P b ∧ P c := by
  obtain ⟨-, h⟩ := hs
  rcases h with ⟨rfl, rfl, rfl⟩ | ⟨rfl, rfl, rfl⟩ | ⟨rfl, rfl, rfl⟩ | ⟨rfl, rfl, rfl⟩ | ⟨rfl, rfl, rfl⟩ | ⟨rfl, rfl, rfl⟩ <;> exact ⟨by assumption, by assumption, by assumption⟩
theorem own_ixL {x : Int32} {k : Int32} (h : x = k) (hk : own_ix k) : own_ix x := h ▸ hk
theorem own_H.sorted {Z : State} {h h' : Heap} {n0 : Nat} {ad : Nat → Addr} {v_rn v_mg : Addr} {v_ra v_fa v_fk v_an v_at v_c1 v_c2 v_c3 v_i10 v_i11 v_i12 v_i20 v_i21 v_i22 v_i30 v_i31 v_i32 v_k0 v_k1 v_k2 : Int32} {v_nx v_l10 v_l11 v_l12 v_l20 v_l21 v_l22 v_l30 v_l31 v_l32 : Int64} {x y z : Int64} (H : own_H Z h n0 ad v_rn v_mg v_ra v_fa v_fk v_an v_at v_nx v_c1 v_c2 v_c3 v_l10 v_l11 v_l12 v_l20 v_l21 v_l22 v_l30 v_l31 v_l32 v_i10 v_i11 v_i12 v_i20 v_i21 v_i22 v_i30 v_i31 v_i32 v_k0 v_k1 v_k2) (K : Keep h h' [ad 6]) (A : ArF Z h' (ad 6) .long 16 (own_J x y z)) : own_H Z h' n0 ad v_rn v_mg v_ra v_fa v_fk v_an v_at v_nx v_c1 v_c2 v_c3 v_l10 v_l11 v_l12 v_l20 v_l21 v_l22 x y z v_i10 v_i11 v_i12 v_i20 v_i21 v_i22 v_i30 v_i31 v_i32 v_k0 v_k1 v_k2 := by
  obtain ⟨hinj, hge, E0, E1, E2, E3, r_run, r_merged, r_fresh, r_serverBits, r_freeBits, r_serverMask, r_mostFree, r_mostSpend, r_runAt, r_freshAt, r_freshKept, r_ranking, r_rankedAnew, r_at, r_next, u1_rank, u1_ranking, u1_count, u2_rank, u2_ranking, u2_count, u3_rank, u3_ranking, u3_count, a_l1, a_l2, a_l3, a_i1, a_i2, a_i3, a_k⟩ := H
  exact ⟨hinj, hge, E0.keep K, E1.keep K, E2.keep K, E3.keep K, r_run.keep K (ninS (on hinj 0 6 rfl) nin0), r_merged.keep K (ninS (on hinj 0 6 rfl) nin0), r_fresh.keep K (ninS (on hinj 0 6 rfl) nin0), r_serverBits.keep K (ninS (on hinj 0 6 rfl) nin0), r_freeBits.keep K (ninS (on hinj 0 6 rfl) nin0), r_serverMask.keep K (ninS (on hinj 0 6 rfl) nin0), r_mostFree.keep K (ninS (on hinj 0 6 rfl) nin0), r_mostSpend.keep K (ninS (on hinj 0 6 rfl) nin0), r_runAt.keep K (ninS (on hinj 0 6 rfl) nin0), r_freshAt.keep K (ninS (on hinj 0 6 rfl) nin0), r_freshKept.keep K (ninS (on hinj 0 6 rfl) nin0), r_ranking.keep K (ninS (on hinj 0 6 rfl) nin0), r_rankedAnew.keep K (ninS (on hinj 0 6 rfl) nin0), r_at.keep K (ninS (on hinj 0 6 rfl) nin0), r_next.keep K (ninS (on hinj 0 6 rfl) nin0), u1_rank.keep K (ninS (on hinj 1 6 rfl) nin0), u1_ranking.keep K (ninS (on hinj 1 6 rfl) nin0), u1_count.keep K (ninS (on hinj 1 6 rfl) nin0), u2_rank.keep K (ninS (on hinj 2 6 rfl) nin0), u2_ranking.keep K (ninS (on hinj 2 6 rfl) nin0), u2_count.keep K (ninS (on hinj 2 6 rfl) nin0), u3_rank.keep K (ninS (on hinj 3 6 rfl) nin0), u3_ranking.keep K (ninS (on hinj 3 6 rfl) nin0), u3_count.keep K (ninS (on hinj 3 6 rfl) nin0), a_l1.keep K (ninS (on hinj 4 6 rfl) nin0), a_l2.keep K (ninS (on hinj 5 6 rfl) nin0), A, a_i1.keep K (ninS (on hinj 7 6 rfl) nin0), a_i2.keep K (ninS (on hinj 8 6 rfl) nin0), a_i3.keep K (ninS (on hinj 9 6 rfl) nin0), a_k.keep K (ninS (on hinj 10 6 rfl) nin0)⟩
theorem own_pn20 : plainFor (⟨"com/example/nearfield/nearfield/job/RankedReads", "order", "()V"⟩ : MethodName) = true := by first | exact plainFor_of_name (by first | (simp [plainName, overriddenIn, x]; done) | decide +kernel) | decide +kernel
theorem ef_10 (m : MethodId) (q0 : Addr) : entryFrame m #[(.ref q0)] 2 = mkF m 0 #[.val (.ref q0), .unset] [] := by first | (simp [entryFrame, mkF, argsToLocals, Value.category, maxLocals]; done) | rfl
theorem d10_0 : decode prog_98_method_7_code 0 = .ok (.aload_n 0, 1) := by decide +kernel
theorem d10_1 : decode prog_98_method_7_code 1 = .ok (.getfield 19, 3) := by decide +kernel
theorem d10_4 : decode prog_98_method_7_code 4 = .ok (.getfield 78, 3) := by decide +kernel
theorem d10_7 : decode prog_98_method_7_code 7 = .ok (.ifCond .gt 10, 3) := by decide +kernel
theorem d10_17 : decode prog_98_method_7_code 17 = .ok (.aload_n 0, 1) := by decide +kernel
theorem d10_18 : decode prog_98_method_7_code 18 = .ok (.iconst 0, 1) := by decide +kernel
theorem d10_19 : decode prog_98_method_7_code 19 = .ok (.putfield 81, 3) := by decide +kernel
theorem d10_22 : decode prog_98_method_7_code 22 = .ok (.aload_n 0, 1) := by decide +kernel
theorem d10_23 : decode prog_98_method_7_code 23 = .ok (.iconst 0, 1) := by decide +kernel
theorem d10_24 : decode prog_98_method_7_code 24 = .ok (.putfield 84, 3) := by decide +kernel
theorem d10_27 : decode prog_98_method_7_code 27 = .ok (.aload_n 0, 1) := by decide +kernel
theorem d10_28 : decode prog_98_method_7_code 28 = .ok (.getfield 84, 3) := by decide +kernel
theorem d10_31 : decode prog_98_method_7_code 31 = .ok (.aload_n 0, 1) := by decide +kernel
theorem d10_32 : decode prog_98_method_7_code 32 = .ok (.getfield 19, 3) := by decide +kernel
theorem d10_35 : decode prog_98_method_7_code 35 = .ok (.getfield 78, 3) := by decide +kernel
theorem d10_38 : decode prog_98_method_7_code 38 = .ok (.if_icmp .ge 20, 3) := by decide +kernel
theorem d10_41 : decode prog_98_method_7_code 41 = .ok (.aload_n 0, 1) := by decide +kernel
theorem own_pd7 : parseMethodDescriptor "()V" = some ⟨[], none⟩ := by decide +kernel
theorem d10_42 : decode prog_98_method_7_code 42 = .ok (.invokevirtual 87, 3) := by decide +kernel
theorem d10_45 : decode prog_98_method_7_code 45 = .ok (.aload_n 0, 1) := by decide +kernel
theorem d10_46 : decode prog_98_method_7_code 46 = .ok (.dup, 1) := by decide +kernel
theorem d10_47 : decode prog_98_method_7_code 47 = .ok (.getfield 84, 3) := by decide +kernel
theorem d10_50 : decode prog_98_method_7_code 50 = .ok (.iconst 1, 1) := by decide +kernel
theorem d10_51 : decode prog_98_method_7_code 51 = .ok (.iadd, 1) := by decide +kernel
theorem d10_52 : decode prog_98_method_7_code 52 = .ok (.putfield 84, 3) := by decide +kernel
theorem d10_55 : decode prog_98_method_7_code 55 = .ok (.goto (-28), 3) := by decide +kernel
theorem d10_58 : decode prog_98_method_7_code 58 = .ok (.aload_n 0, 1) := by decide +kernel
theorem d10_59 : decode prog_98_method_7_code 59 = .ok (.getfield 19, 3) := by decide +kernel
theorem d10_62 : decode prog_98_method_7_code 62 = .ok (.aload_n 0, 1) := by decide +kernel
theorem d10_63 : decode prog_98_method_7_code 63 = .ok (.getfield 81, 3) := by decide +kernel
theorem d10_66 : decode prog_98_method_7_code 66 = .ok (.putfield 78, 3) := by decide +kernel
theorem d10_69 : decode prog_98_method_7_code 69 = .ok (.aload_n 0, 1) := by decide +kernel
theorem d10_70 : decode prog_98_method_7_code 70 = .ok (.getfield 19, 3) := by decide +kernel
theorem d10_73 : decode prog_98_method_7_code 73 = .ok (.getfield 90, 3) := by decide +kernel
theorem d10_76 : decode prog_98_method_7_code 76 = .ok (.iconst 0, 1) := by decide +kernel
theorem d10_77 : decode prog_98_method_7_code 77 = .ok (.aload_n 0, 1) := by decide +kernel
theorem d10_78 : decode prog_98_method_7_code 78 = .ok (.getfield 19, 3) := by decide +kernel
theorem d10_81 : decode prog_98_method_7_code 81 = .ok (.getfield 78, 3) := by decide +kernel
theorem d10_84 : decode prog_98_method_7_code 84 = .ok (.invokestatic 94, 3) := by decide +kernel
theorem d10_87 : decode prog_98_method_7_code 87 = .ok (.aload_n 0, 1) := by decide +kernel
theorem d10_88 : decode prog_98_method_7_code 88 = .ok (.getfield 16, 3) := by decide +kernel
theorem d10_91 : decode prog_98_method_7_code 91 = .ok (.invokevirtual 75, 3) := by decide +kernel
theorem d10_94 : decode prog_98_method_7_code 94 = .ok (.aload_n 0, 1) := by decide +kernel
theorem d10_95 : decode prog_98_method_7_code 95 = .ok (.getfield 16, 3) := by decide +kernel
theorem d10_98 : decode prog_98_method_7_code 98 = .ok (.aload_n 0, 1) := by decide +kernel
theorem d10_99 : decode prog_98_method_7_code 99 = .ok (.getfield 10, 3) := by decide +kernel
theorem d10_102 : decode prog_98_method_7_code 102 = .ok (.getfield 78, 3) := by decide +kernel
theorem d10_105 : decode prog_98_method_7_code 105 = .ok (.aload_n 0, 1) := by decide +kernel
theorem d10_106 : decode prog_98_method_7_code 106 = .ok (.getfield 19, 3) := by decide +kernel
theorem d10_109 : decode prog_98_method_7_code 109 = .ok (.getfield 78, 3) := by decide +kernel
theorem d10_112 : decode prog_98_method_7_code 112 = .ok (.iadd, 1) := by decide +kernel
theorem own_pd8 : parseMethodDescriptor "(I)V" = some ⟨[.int], none⟩ := by decide +kernel
theorem d10_113 : decode prog_98_method_7_code 113 = .ok (.invokevirtual 100, 3) := by decide +kernel
theorem d10_116 : decode prog_98_method_7_code 116 = .ok (.aload_n 0, 1) := by decide +kernel
theorem d10_117 : decode prog_98_method_7_code 117 = .ok (.iconst 0, 1) := by decide +kernel
theorem d10_118 : decode prog_98_method_7_code 118 = .ok (.putfield 104, 3) := by decide +kernel
theorem d10_121 : decode prog_98_method_7_code 121 = .ok (.aload_n 0, 1) := by decide +kernel
theorem d10_122 : decode prog_98_method_7_code 122 = .ok (.iconst 0, 1) := by decide +kernel
theorem d10_123 : decode prog_98_method_7_code 123 = .ok (.putfield 84, 3) := by decide +kernel
theorem d10_126 : decode prog_98_method_7_code 126 = .ok (.aload_n 0, 1) := by decide +kernel
theorem d10_127 : decode prog_98_method_7_code 127 = .ok (.getfield 104, 3) := by decide +kernel
theorem d10_130 : decode prog_98_method_7_code 130 = .ok (.aload_n 0, 1) := by decide +kernel
theorem d10_131 : decode prog_98_method_7_code 131 = .ok (.getfield 10, 3) := by decide +kernel
theorem d10_134 : decode prog_98_method_7_code 134 = .ok (.getfield 78, 3) := by decide +kernel
theorem d10_137 : decode prog_98_method_7_code 137 = .ok (.if_icmp .lt 17, 3) := by decide +kernel
theorem d10_140 : decode prog_98_method_7_code 140 = .ok (.aload_n 0, 1) := by decide +kernel
theorem d10_141 : decode prog_98_method_7_code 141 = .ok (.getfield 84, 3) := by decide +kernel
theorem d10_144 : decode prog_98_method_7_code 144 = .ok (.aload_n 0, 1) := by decide +kernel
theorem d10_145 : decode prog_98_method_7_code 145 = .ok (.getfield 19, 3) := by decide +kernel
theorem d10_148 : decode prog_98_method_7_code 148 = .ok (.getfield 78, 3) := by decide +kernel
theorem d10_151 : decode prog_98_method_7_code 151 = .ok (.if_icmp .ge 10, 3) := by decide +kernel
theorem d10_154 : decode prog_98_method_7_code 154 = .ok (.aload_n 0, 1) := by decide +kernel
theorem d10_155 : decode prog_98_method_7_code 155 = .ok (.invokevirtual 107, 3) := by decide +kernel
theorem d10_158 : decode prog_98_method_7_code 158 = .ok (.goto (-32), 3) := by decide +kernel
theorem d10_161 : decode prog_98_method_7_code 161 = .ok (.aload_n 0, 1) := by decide +kernel
theorem d10_162 : decode prog_98_method_7_code 162 = .ok (.getfield 19, 3) := by decide +kernel
theorem d10_165 : decode prog_98_method_7_code 165 = .ok (.invokevirtual 75, 3) := by decide +kernel
theorem d10_168 : decode prog_98_method_7_code 168 = .ok (.aload_n 0, 1) := by decide +kernel
theorem d10_169 : decode prog_98_method_7_code 169 = .ok (.iconst 0, 1) := by decide +kernel
theorem d10_170 : decode prog_98_method_7_code 170 = .ok (.putfield 57, 3) := by decide +kernel
theorem d10_173 : decode prog_98_method_7_code 173 = .ok (.aload_n 0, 1) := by decide +kernel
theorem d10_174 : decode prog_98_method_7_code 174 = .ok (.getfield 10, 3) := by decide +kernel
theorem d10_177 : decode prog_98_method_7_code 177 = .ok (.astore_n 1, 1) := by decide +kernel
theorem d10_178 : decode prog_98_method_7_code 178 = .ok (.aload_n 0, 1) := by decide +kernel
theorem d10_179 : decode prog_98_method_7_code 179 = .ok (.aload_n 0, 1) := by decide +kernel
theorem d10_180 : decode prog_98_method_7_code 180 = .ok (.getfield 16, 3) := by decide +kernel
theorem d10_183 : decode prog_98_method_7_code 183 = .ok (.putfield 10, 3) := by decide +kernel
theorem own_w_rn {Z : State} {a0 : Array Value} (hw : ∀ d ∈ tables_1, d.before a0 Z = true) {h h' : Heap} {n0 : Nat} {ad : Nat → Addr} {v_rn v_mg : Addr} {v_ra v_fa v_fk v_an v_at v_c1 v_c2 v_c3 v_i10 v_i11 v_i12 v_i20 v_i21 v_i22 v_i30 v_i31 v_i32 v_k0 v_k1 v_k2 : Int32} {v_nx v_l10 v_l11 v_l12 v_l20 v_l21 v_l22 v_l30 v_l31 v_l32 : Int64} {v : Addr} (H : own_H Z h n0 ad v_rn v_mg v_ra v_fa v_fk v_an v_at v_nx v_c1 v_c2 v_c3 v_l10 v_l11 v_l12 v_l20 v_l21 v_l22 v_l30 v_l31 v_l32 v_i10 v_i11 v_i12 v_i20 v_i21 v_i22 v_i30 v_i31 v_i32 v_k0 v_k1 v_k2) (W : Wr h h' (ad 0) (Jvm.RoadKit.slotOf Z "com/example/nearfield/nearfield/job/RankedReads" "run" "Lcom/example/nearfield/nearfield/job/RankedReads$Run;") (.ref v)) : own_H Z h' n0 ad v v_mg v_ra v_fa v_fk v_an v_at v_nx v_c1 v_c2 v_c3 v_l10 v_l11 v_l12 v_l20 v_l21 v_l22 v_l30 v_l31 v_l32 v_i10 v_i11 v_i12 v_i20 v_i21 v_i22 v_i30 v_i31 v_i32 v_k0 v_k1 v_k2 := by
  obtain ⟨hinj, hge, E0, E1, E2, E3, r_run, r_merged, r_fresh, r_serverBits, r_freeBits, r_serverMask, r_mostFree, r_mostSpend, r_runAt, r_freshAt, r_freshKept, r_ranking, r_rankedAnew, r_at, r_next, u1_rank, u1_ranking, u1_count, u2_rank, u2_ranking, u2_count, u3_rank, u3_ranking, u3_count, a_l1, a_l2, a_l3, a_i1, a_i2, a_i3, a_k⟩ := H
  exact ⟨hinj, hge, E0.wr W, E1.wr W, E2.wr W, E3.wr W, r_run.same W, r_merged.other W (Or.inr (slot_ne (Or.inl (ow hw 27 rfl)) (Or.inl (ow hw 25 rfl)) (by decide) (t := (.object "com/example/nearfield/nearfield/job/RankedReads$Run")) (t' := (.object "com/example/nearfield/nearfield/job/RankedReads$Run")) (by decide) (by decide))), r_fresh.other W (Or.inr (slot_ne (Or.inr (ow hw 29 rfl)) (Or.inl (ow hw 25 rfl)) (by decide) (t := (.object "com/example/nearfield/nearfield/job/RankedReads$Run")) (t' := (.object "com/example/nearfield/nearfield/job/RankedReads$Run")) (by decide) (by decide))), r_serverBits.other W (Or.inr (slot_ne (Or.inr (ow hw 40 rfl)) (Or.inl (ow hw 25 rfl)) (by decide) (t := .int) (t' := (.object "com/example/nearfield/nearfield/job/RankedReads$Run")) (by decide) (by decide))), r_freeBits.other W (Or.inr (slot_ne (Or.inr (ow hw 42 rfl)) (Or.inl (ow hw 25 rfl)) (by decide) (t := .int) (t' := (.object "com/example/nearfield/nearfield/job/RankedReads$Run")) (by decide) (by decide))), r_serverMask.other W (Or.inr (slot_ne (Or.inr (ow hw 44 rfl)) (Or.inl (ow hw 25 rfl)) (by decide) (t := .long) (t' := (.object "com/example/nearfield/nearfield/job/RankedReads$Run")) (by decide) (by decide))), r_mostFree.other W (Or.inr (slot_ne (Or.inr (ow hw 46 rfl)) (Or.inl (ow hw 25 rfl)) (by decide) (t := .long) (t' := (.object "com/example/nearfield/nearfield/job/RankedReads$Run")) (by decide) (by decide))), r_mostSpend.other W (Or.inr (slot_ne (Or.inr (ow hw 48 rfl)) (Or.inl (ow hw 25 rfl)) (by decide) (t := .long) (t' := (.object "com/example/nearfield/nearfield/job/RankedReads$Run")) (by decide) (by decide))), r_runAt.other W (Or.inr (slot_ne (Or.inl (ow hw 117 rfl)) (Or.inl (ow hw 25 rfl)) (by decide) (t := .int) (t' := (.object "com/example/nearfield/nearfield/job/RankedReads$Run")) (by decide) (by decide))), r_freshAt.other W (Or.inr (slot_ne (Or.inl (ow hw 82 rfl)) (Or.inl (ow hw 25 rfl)) (by decide) (t := .int) (t' := (.object "com/example/nearfield/nearfield/job/RankedReads$Run")) (by decide) (by decide))), r_freshKept.other W (Or.inr (slot_ne (Or.inl (ow hw 80 rfl)) (Or.inl (ow hw 25 rfl)) (by decide) (t := .int) (t' := (.object "com/example/nearfield/nearfield/job/RankedReads$Run")) (by decide) (by decide))), r_ranking.other W (Or.inr (slot_ne (Or.inr (ow hw 50 rfl)) (Or.inl (ow hw 25 rfl)) (by decide) (t := (.array .int)) (t' := (.object "com/example/nearfield/nearfield/job/RankedReads$Run")) (by decide) (by decide))), r_rankedAnew.other W (Or.inr (slot_ne (Or.inl (ow hw 123 rfl)) (Or.inl (ow hw 25 rfl)) (by decide) (t := .boolean) (t' := (.object "com/example/nearfield/nearfield/job/RankedReads$Run")) (by decide) (by decide))), r_at.other W (Or.inr (slot_ne (Or.inl (ow hw 125 rfl)) (Or.inl (ow hw 25 rfl)) (by decide) (t := .int) (t' := (.object "com/example/nearfield/nearfield/job/RankedReads$Run")) (by decide) (by decide))), r_next.other W (Or.inr (slot_ne (Or.inl (ow hw 132 rfl)) (Or.inl (ow hw 25 rfl)) (by decide) (t := .long) (t' := (.object "com/example/nearfield/nearfield/job/RankedReads$Run")) (by decide) (by decide))), u1_rank.other W (Or.inl (on hinj 1 0 rfl)), u1_ranking.other W (Or.inl (on hinj 1 0 rfl)), u1_count.other W (Or.inl (on hinj 1 0 rfl)), u2_rank.other W (Or.inl (on hinj 2 0 rfl)), u2_ranking.other W (Or.inl (on hinj 2 0 rfl)), u2_count.other W (Or.inl (on hinj 2 0 rfl)), u3_rank.other W (Or.inl (on hinj 3 0 rfl)), u3_ranking.other W (Or.inl (on hinj 3 0 rfl)), u3_count.other W (Or.inl (on hinj 3 0 rfl)), a_l1.other W (on hinj 4 0 rfl), a_l2.other W (on hinj 5 0 rfl), a_l3.other W (on hinj 6 0 rfl), a_i1.other W (on hinj 7 0 rfl), a_i2.other W (on hinj 8 0 rfl), a_i3.other W (on hinj 9 0 rfl), a_k.other W (on hinj 10 0 rfl)⟩
theorem d10_186 : decode prog_98_method_7_code 186 = .ok (.aload_n 0, 1) := by decide +kernel
theorem d10_187 : decode prog_98_method_7_code 187 = .ok (.aload_n 1, 1) := by decide +kernel
theorem d10_188 : decode prog_98_method_7_code 188 = .ok (.putfield 16, 3) := by decide +kernel
theorem own_w_mg {Z : State} {a0 : Array Value} (hw : ∀ d ∈ tables_1, d.before a0 Z = true) {h h' : Heap} {n0 : Nat} {ad : Nat → Addr} {v_rn v_mg : Addr} {v_ra v_fa v_fk v_an v_at v_c1 v_c2 v_c3 v_i10 v_i11 v_i12 v_i20 v_i21 v_i22 v_i30 v_i31 v_i32 v_k0 v_k1 v_k2 : Int32} {v_nx v_l10 v_l11 v_l12 v_l20 v_l21 v_l22 v_l30 v_l31 v_l32 : Int64} {v : Addr} (H : own_H Z h n0 ad v_rn v_mg v_ra v_fa v_fk v_an v_at v_nx v_c1 v_c2 v_c3 v_l10 v_l11 v_l12 v_l20 v_l21 v_l22 v_l30 v_l31 v_l32 v_i10 v_i11 v_i12 v_i20 v_i21 v_i22 v_i30 v_i31 v_i32 v_k0 v_k1 v_k2) (W : Wr h h' (ad 0) (Jvm.RoadKit.slotOf Z "com/example/nearfield/nearfield/job/RankedReads" "merged" "Lcom/example/nearfield/nearfield/job/RankedReads$Run;") (.ref v)) : own_H Z h' n0 ad v_rn v v_ra v_fa v_fk v_an v_at v_nx v_c1 v_c2 v_c3 v_l10 v_l11 v_l12 v_l20 v_l21 v_l22 v_l30 v_l31 v_l32 v_i10 v_i11 v_i12 v_i20 v_i21 v_i22 v_i30 v_i31 v_i32 v_k0 v_k1 v_k2 := by
  obtain ⟨hinj, hge, E0, E1, E2, E3, r_run, r_merged, r_fresh, r_serverBits, r_freeBits, r_serverMask, r_mostFree, r_mostSpend, r_runAt, r_freshAt, r_freshKept, r_ranking, r_rankedAnew, r_at, r_next, u1_rank, u1_ranking, u1_count, u2_rank, u2_ranking, u2_count, u3_rank, u3_ranking, u3_count, a_l1, a_l2, a_l3, a_i1, a_i2, a_i3, a_k⟩ := H
  exact ⟨hinj, hge, E0.wr W, E1.wr W, E2.wr W, E3.wr W, r_run.other W (Or.inr (slot_ne (Or.inl (ow hw 25 rfl)) (Or.inl (ow hw 27 rfl)) (by decide) (t := (.object "com/example/nearfield/nearfield/job/RankedReads$Run")) (t' := (.object "com/example/nearfield/nearfield/job/RankedReads$Run")) (by decide) (by decide))), r_merged.same W, r_fresh.other W (Or.inr (slot_ne (Or.inr (ow hw 29 rfl)) (Or.inl (ow hw 27 rfl)) (by decide) (t := (.object "com/example/nearfield/nearfield/job/RankedReads$Run")) (t' := (.object "com/example/nearfield/nearfield/job/RankedReads$Run")) (by decide) (by decide))), r_serverBits.other W (Or.inr (slot_ne (Or.inr (ow hw 40 rfl)) (Or.inl (ow hw 27 rfl)) (by decide) (t := .int) (t' := (.object "com/example/nearfield/nearfield/job/RankedReads$Run")) (by decide) (by decide))), r_freeBits.other W (Or.inr (slot_ne (Or.inr (ow hw 42 rfl)) (Or.inl (ow hw 27 rfl)) (by decide) (t := .int) (t' := (.object "com/example/nearfield/nearfield/job/RankedReads$Run")) (by decide) (by decide))), r_serverMask.other W (Or.inr (slot_ne (Or.inr (ow hw 44 rfl)) (Or.inl (ow hw 27 rfl)) (by decide) (t := .long) (t' := (.object "com/example/nearfield/nearfield/job/RankedReads$Run")) (by decide) (by decide))), r_mostFree.other W (Or.inr (slot_ne (Or.inr (ow hw 46 rfl)) (Or.inl (ow hw 27 rfl)) (by decide) (t := .long) (t' := (.object "com/example/nearfield/nearfield/job/RankedReads$Run")) (by decide) (by decide))), r_mostSpend.other W (Or.inr (slot_ne (Or.inr (ow hw 48 rfl)) (Or.inl (ow hw 27 rfl)) (by decide) (t := .long) (t' := (.object "com/example/nearfield/nearfield/job/RankedReads$Run")) (by decide) (by decide))), r_runAt.other W (Or.inr (slot_ne (Or.inl (ow hw 117 rfl)) (Or.inl (ow hw 27 rfl)) (by decide) (t := .int) (t' := (.object "com/example/nearfield/nearfield/job/RankedReads$Run")) (by decide) (by decide))), r_freshAt.other W (Or.inr (slot_ne (Or.inl (ow hw 82 rfl)) (Or.inl (ow hw 27 rfl)) (by decide) (t := .int) (t' := (.object "com/example/nearfield/nearfield/job/RankedReads$Run")) (by decide) (by decide))), r_freshKept.other W (Or.inr (slot_ne (Or.inl (ow hw 80 rfl)) (Or.inl (ow hw 27 rfl)) (by decide) (t := .int) (t' := (.object "com/example/nearfield/nearfield/job/RankedReads$Run")) (by decide) (by decide))), r_ranking.other W (Or.inr (slot_ne (Or.inr (ow hw 50 rfl)) (Or.inl (ow hw 27 rfl)) (by decide) (t := (.array .int)) (t' := (.object "com/example/nearfield/nearfield/job/RankedReads$Run")) (by decide) (by decide))), r_rankedAnew.other W (Or.inr (slot_ne (Or.inl (ow hw 123 rfl)) (Or.inl (ow hw 27 rfl)) (by decide) (t := .boolean) (t' := (.object "com/example/nearfield/nearfield/job/RankedReads$Run")) (by decide) (by decide))), r_at.other W (Or.inr (slot_ne (Or.inl (ow hw 125 rfl)) (Or.inl (ow hw 27 rfl)) (by decide) (t := .int) (t' := (.object "com/example/nearfield/nearfield/job/RankedReads$Run")) (by decide) (by decide))), r_next.other W (Or.inr (slot_ne (Or.inl (ow hw 132 rfl)) (Or.inl (ow hw 27 rfl)) (by decide) (t := .long) (t' := (.object "com/example/nearfield/nearfield/job/RankedReads$Run")) (by decide) (by decide))), u1_rank.other W (Or.inl (on hinj 1 0 rfl)), u1_ranking.other W (Or.inl (on hinj 1 0 rfl)), u1_count.other W (Or.inl (on hinj 1 0 rfl)), u2_rank.other W (Or.inl (on hinj 2 0 rfl)), u2_ranking.other W (Or.inl (on hinj 2 0 rfl)), u2_count.other W (Or.inl (on hinj 2 0 rfl)), u3_rank.other W (Or.inl (on hinj 3 0 rfl)), u3_ranking.other W (Or.inl (on hinj 3 0 rfl)), u3_count.other W (Or.inl (on hinj 3 0 rfl)), a_l1.other W (on hinj 4 0 rfl), a_l2.other W (on hinj 5 0 rfl), a_l3.other W (on hinj 6 0 rfl), a_i1.other W (on hinj 7 0 rfl), a_i2.other W (on hinj 8 0 rfl), a_i3.other W (on hinj 9 0 rfl), a_k.other W (on hinj 10 0 rfl)⟩
theorem d10_191 : decode prog_98_method_7_code 191 = .ok (.aload_n 0, 1) := by decide +kernel
theorem d10_192 : decode prog_98_method_7_code 192 = .ok (.iconst (-1), 1) := by decide +kernel
theorem d10_193 : decode prog_98_method_7_code 193 = .ok (.putfield 110, 3) := by decide +kernel
theorem d10_196 : decode prog_98_method_7_code 196 = .ok (.aload_n 0, 1) := by decide +kernel
theorem d10_197 : decode prog_98_method_7_code 197 = .ok (.invokevirtual 113, 3) := by decide +kernel
theorem d10_200 : decode prog_98_method_7_code 200 = .ok (.return_, 1) := by decide +kernel
set_option maxRecDepth 65536 in
set_option maxHeartbeats 40000000 in
theorem own_c10 (l : Launch) (Z : State) (a0 : Array Value) (hw : ∀ d ∈ tables_1, d.before a0 Z = true) (h0 : Heap) (n0 : Nat) (ad : Nat → Addr) (v_ra : Int32) (v_fa : Int32) (v_fk : Int32) (v_at : Int32) (v_nx : Int64) (v_c2 : Int32) (v_l10 : Int64) (v_l11 : Int64) (v_l12 : Int64) (v_l20 : Int64) (v_l21 : Int64) (v_l22 : Int64) (v_l30 : Int64) (v_l31 : Int64) (v_l32 : Int64) (v_i10 : Int32) (v_i11 : Int32) (v_i12 : Int32) (v_i20 : Int32) (v_i21 : Int32) (v_i22 : Int32) (hq0 : ((v_l30 &&& (3 : Int64)).toInt32) = (0 : Int32)) (hq1 : ((v_l31 &&& (3 : Int64)).toInt32) = (1 : Int32)) (hq2 : ((v_l32 &&& (3 : Int64)).toInt32) = (2 : Int32)) (H : own_H Z h0 n0 ad (ad 1) (ad 2) v_ra v_fa v_fk (0 : Int32) v_at v_nx (0 : Int32) v_c2 (3 : Int32) v_l10 v_l11 v_l12 v_l20 v_l21 v_l22 v_l30 v_l31 v_l32 v_i10 v_i11 v_i12 v_i20 v_i21 v_i22 (0 : Int32) (0 : Int32) (0 : Int32) (0 : Int32) (0 : Int32) (0 : Int32)) :
    Con l Z (⟨"com/example/nearfield/nearfield/job/RankedReads", "order", "()V"⟩ : MethodName) prog_98_method_7_code 2 none [] ({ frames := 4, cells := 0, slots := 0, locals := 86 } : Room) 0 0 #[(.ref (ad 0))] h0 (fun r h L => r = none ∧ (∃ a b c, own_srt v_l30 v_l31 v_l32 a b c ∧ own_H Z h n0 ad (ad 2) (ad 1) (0 : Int32) (3 : Int32) (3 : Int32) (0 : Int32) (0 : Int32) a (0 : Int32) (3 : Int32) (0 : Int32) v_l10 v_l11 v_l12 a b c a b c v_i10 v_i11 v_i12 (0 : Int32) (0 : Int32) (0 : Int32) (0 : Int32) (0 : Int32) (0 : Int32) (0 : Int32) (0 : Int32) (0 : Int32)) ∧ Fr n0 L) := by
  refine Con.of own_pn20 ?_
  intro pg ev s_ m bl mt cd s₁ hx hby hml hown hnm hret hlk hZ X0 e0
  rw [ef_10]
  show Gd _ _ _ _ (s₁.setTop (mkF m 0 #[.val (.ref (ad 0)), .unset] []))
  have N0 := Fr.nil n0
  refine Gd.go (fun _ w_k => XS.aloadN X0.here hx rfl (hb hby d10_0) rfl rfl w_k) ?_
  show Gd _ _ _ _ (s₁.setTop (mkF m 1 #[.val (.ref (ad 0)), .unset] [(.ref (ad 0))]))
  obtain ⟨T1, X1, e1, st1⟩ := getF X0 hx hZ hown (host := "") (Or.inl (ow hw 28 rfl)) Via.refl e0 H.2.2.2.2.2.2.2.2.1 (g := (mkF m 1 #[.val (.ref (ad 0)), .unset] [(.ref (ad 0))])) rfl rfl (hb hby d10_1)
  refine Gd.go (fun _ w_k => st1 _ (own_getR X1 hx hZ hown (ow hw 78 rfl) e1 H.2.2.2.2.2.2.2.2.2.2.2.2.2.2.2.2.2.2.2.2.2.2.2.2.2.2.2.2.2.1 (g := (mkF m 4 #[.val (.ref (ad 0)), .unset] [(.ref (ad 3))])) rfl rfl (hb hby d10_4) _ (XS.ifYes X1.here hx rfl (pc0 := 7) (pc' := 17) rfl (hb hby d10_7) rfl ((if0 _ _).trans (tlt (by decide)).2.2.1) (by decide) (by decide) w_k))) ?_
  show Gd _ _ _ _ (T1.setTop (mkF m 17 #[.val (.ref (ad 0)), .unset] []))
  refine Gd.go (fun _ w_k => XS.aloadN X1.here hx rfl (hb hby d10_17) rfl rfl (XS.iconst X1.here hx rfl (hb hby d10_18) w_k)) ?_
  show Gd _ _ _ _ (T1.setTop (mkF m 19 #[.val (.ref (ad 0)), .unset] [(.int (0 : Int32)), (.ref (ad 0))]))
  obtain ⟨T2, h2, X2, e2, W2, st2⟩ := putF X1 hx hZ hown (host := "") (Or.inl (ow hw 79 rfl)) Via.refl e1 H.2.2.2.2.2.2.2.2.2.2.2.2.2.2.2.2.1 H.2.2.1 (Or.inl (ow hw 80 rfl)) (ow hw 3 rfl) (ty := .int) (by decide) rfl rfl (g := (mkF m 19 #[.val (.ref (ad 0)), .unset] [(.int (0 : Int32)), (.ref (ad 0))])) rfl rfl (hb hby d10_19)
  refine Gd.go (fun _ w_k => st2 _ w_k) ?_
  have H3 := own_w_fk hw H W2
  have xN4 := Fr.snoc X2 N0 (H.2.1 0 (by decide))
  show Gd _ _ _ _ (T2.setTop (mkF m 22 #[.val (.ref (ad 0)), .unset] []))
  refine Gd.go (fun _ w_k => XS.aloadN X2.here hx rfl (hb hby d10_22) rfl rfl (XS.iconst X2.here hx rfl (hb hby d10_23) w_k)) ?_
  show Gd _ _ _ _ (T2.setTop (mkF m 24 #[.val (.ref (ad 0)), .unset] [(.int (0 : Int32)), (.ref (ad 0))]))
  obtain ⟨T5, h5, X5, e5, W5, st5⟩ := putF X2 hx hZ hown (host := "") (Or.inl (ow hw 81 rfl)) Via.refl e2 H3.2.2.2.2.2.2.2.2.2.2.2.2.2.2.2.1 H3.2.2.1 (Or.inl (ow hw 82 rfl)) (ow hw 3 rfl) (ty := .int) (by decide) rfl rfl (g := (mkF m 24 #[.val (.ref (ad 0)), .unset] [(.int (0 : Int32)), (.ref (ad 0))])) rfl rfl (hb hby d10_24)
  refine Gd.go (fun _ w_k => st5 _ w_k) ?_
  have H6 := own_w_fa hw H3 W5
  have xN7 := Fr.snoc X5 xN4 (H.2.1 0 (by decide))
  show Gd _ _ _ _ (T5.setTop (mkF m 27 #[.val (.ref (ad 0)), .unset] []))
  refine Gd.go (fun _ w_k => XS.aloadN X5.here hx rfl (hb hby d10_27) rfl rfl w_k) ?_
  show Gd _ _ _ _ (T5.setTop (mkF m 28 #[.val (.ref (ad 0)), .unset] [(.ref (ad 0))]))
  obtain ⟨T8, X8, e8, st8⟩ := getF X5 hx hZ hown (host := "") (Or.inl (ow hw 81 rfl)) Via.refl e5 H6.2.2.2.2.2.2.2.2.2.2.2.2.2.2.2.1 (g := (mkF m 28 #[.val (.ref (ad 0)), .unset] [(.ref (ad 0))])) rfl rfl (hb hby d10_28)
  refine Gd.go (fun _ w_k => st8 _ (XS.aloadN X8.here hx rfl (hb hby d10_31) rfl rfl w_k)) ?_
  show Gd _ _ _ _ (T8.setTop (mkF m 32 #[.val (.ref (ad 0)), .unset] [(.ref (ad 0)), (.int (0 : Int32))]))
  obtain ⟨T9, X9, e9, st9⟩ := getF X8 hx hZ hown (host := "") (Or.inl (ow hw 28 rfl)) Via.refl e8 H6.2.2.2.2.2.2.2.2.1 (g := (mkF m 32 #[.val (.ref (ad 0)), .unset] [(.ref (ad 0)), (.int (0 : Int32))])) rfl rfl (hb hby d10_32)
  refine Gd.go (fun _ w_k => st9 _ (own_getR X9 hx hZ hown (ow hw 78 rfl) e9 H6.2.2.2.2.2.2.2.2.2.2.2.2.2.2.2.2.2.2.2.2.2.2.2.2.2.2.2.2.2.1 (g := (mkF m 35 #[.val (.ref (ad 0)), .unset] [(.ref (ad 3)), (.int (0 : Int32))])) rfl rfl (hb hby d10_35) _ (XS.icmpNo X9.here hx rfl (hb hby d10_38) rfl (tlt (by decide)).2.1 w_k))) ?_
  show Gd _ _ _ _ (T9.setTop (mkF m 41 #[.val (.ref (ad 0)), .unset] []))
  refine Gd.go (fun _ w_k => XS.aloadN X9.here hx rfl (hb hby d10_41) rfl rfl w_k) ?_
  show Gd _ _ _ _ (T9.setTop (mkF m 42 #[.val (.ref (ad 0)), .unset] [(.ref (ad 0))]))
  obtain ⟨v11, T11, L11, X11, hQ11, st11⟩ := own_callP X9 hx hZ (y := (⟨"com/example/nearfield/nearfield/job/RankedReads", "keepFresh", "()V"⟩ : MethodName)) (y' := (⟨"com/example/nearfield/nearfield/job/RankedReads", "rank", "(JJI)V"⟩ : MethodName)) hown (ow hw 83 rfl) (ow hw 54 rfl) rfl (ow hw 85 rfl) (ow hw 84 rfl) (ow hw 4 rfl) (ow hw 86 rfl) (by decide) H6.2.2.1 (W := 0) (own_c11_0 l Z a0 hw h5 n0 ad (ad 1) (ad 2) v_ra (0 : Int32) v_at v_nx (0 : Int32) v_c2 (3 : Int32) v_l10 v_l11 v_l12 v_l20 v_l21 v_l22 v_l30 v_l31 v_l32 v_i10 v_i11 v_i12 v_i20 v_i21 v_i22 (0 : Int32) (0 : Int32) hq0 H6) rfl rfl e9 (by decide) (by decide) (g := (mkF m 42 #[.val (.ref (ad 0)), .unset] [(.ref (ad 0))])) rfl (by rw [hml]; rfl) (argsL := []) (rest := []) (lenOf own_pd7 rfl) rfl (Nat.le_of_eq rfl) (hb hby d10_42) rfl (by decide) (by decide)
  obtain ⟨rfl, Hy10, Ny10⟩ := hQ11
  refine Gd.go (fun _ w_k => st11 _ w_k) ?_
  show Gd _ _ _ _ (T11.setTop (mkF m 45 #[.val (.ref (ad 0)), .unset] []))
  have xN12 := Fr.app xN7 Ny10
  refine Gd.go (fun _ w_k => XS.aloadN X11.here hx rfl (hb hby d10_45) rfl rfl (XS.dup X11.here hx rfl (hb hby d10_46) rfl rfl w_k)) ?_
  show Gd _ _ _ _ (T11.setTop (mkF m 47 #[.val (.ref (ad 0)), .unset] [(.ref (ad 0)), (.ref (ad 0))]))
  obtain ⟨T13, X13, e13, st13⟩ := getF X11 hx hZ hown (host := "") (Or.inl (ow hw 81 rfl)) Via.refl rfl Hy10.2.2.2.2.2.2.2.2.2.2.2.2.2.2.2.1 (g := (mkF m 47 #[.val (.ref (ad 0)), .unset] [(.ref (ad 0)), (.ref (ad 0))])) rfl rfl (hb hby d10_47)
  refine Gd.go (fun _ w_k => st13 _ (XS.iconst X13.here hx rfl (hb hby d10_50) (XS.iadd X13.here hx rfl (hb hby d10_51) rfl w_k))) ?_
  show Gd _ _ _ _ (T13.setTop (mkF m 52 #[.val (.ref (ad 0)), .unset] [(.int ((0 : Int32) + (1 : Int32))), (.ref (ad 0))]))
  rw [show ((0 : Int32) + (1 : Int32)) = (1 : Int32) from by decide]
  show Gd _ _ _ _ (T13.setTop (mkF m 52 #[.val (.ref (ad 0)), .unset] [(.int (1 : Int32)), (.ref (ad 0))]))
  obtain ⟨T14, h14, X14, e14, W14, st14⟩ := putF X13 hx hZ hown (host := "") (Or.inl (ow hw 81 rfl)) Via.refl e13 Hy10.2.2.2.2.2.2.2.2.2.2.2.2.2.2.2.1 Hy10.2.2.1 (Or.inl (ow hw 82 rfl)) (ow hw 3 rfl) (ty := .int) (by decide) rfl rfl (g := (mkF m 52 #[.val (.ref (ad 0)), .unset] [(.int (1 : Int32)), (.ref (ad 0))])) rfl rfl (hb hby d10_52)
  refine Gd.go (fun _ w_k => st14 _ w_k) ?_
  have H15 := own_w_fa hw Hy10 W14
  have xN16 := Fr.snoc X14 xN12 (H.2.1 0 (by decide))
  show Gd _ _ _ _ (T14.setTop (mkF m 55 #[.val (.ref (ad 0)), .unset] []))
  refine Gd.go (fun _ w_k => XS.goto X14.here hx rfl (pc0 := 55) (pc' := 27) rfl (hb hby d10_55) (by decide) (by decide) (XS.aloadN X14.here hx rfl (hb hby d10_27) rfl rfl w_k)) ?_
  show Gd _ _ _ _ (T14.setTop (mkF m 28 #[.val (.ref (ad 0)), .unset] [(.ref (ad 0))]))
  obtain ⟨T17, X17, e17, st17⟩ := getF X14 hx hZ hown (host := "") (Or.inl (ow hw 81 rfl)) Via.refl e14 H15.2.2.2.2.2.2.2.2.2.2.2.2.2.2.2.1 (g := (mkF m 28 #[.val (.ref (ad 0)), .unset] [(.ref (ad 0))])) rfl rfl (hb hby d10_28)
  refine Gd.go (fun _ w_k => st17 _ (XS.aloadN X17.here hx rfl (hb hby d10_31) rfl rfl w_k)) ?_
  show Gd _ _ _ _ (T17.setTop (mkF m 32 #[.val (.ref (ad 0)), .unset] [(.ref (ad 0)), (.int (1 : Int32))]))
  obtain ⟨T18, X18, e18, st18⟩ := getF X17 hx hZ hown (host := "") (Or.inl (ow hw 28 rfl)) Via.refl e17 H15.2.2.2.2.2.2.2.2.1 (g := (mkF m 32 #[.val (.ref (ad 0)), .unset] [(.ref (ad 0)), (.int (1 : Int32))])) rfl rfl (hb hby d10_32)
  refine Gd.go (fun _ w_k => st18 _ (own_getR X18 hx hZ hown (ow hw 78 rfl) e18 H15.2.2.2.2.2.2.2.2.2.2.2.2.2.2.2.2.2.2.2.2.2.2.2.2.2.2.2.2.2.1 (g := (mkF m 35 #[.val (.ref (ad 0)), .unset] [(.ref (ad 3)), (.int (1 : Int32))])) rfl rfl (hb hby d10_35) _ (XS.icmpNo X18.here hx rfl (hb hby d10_38) rfl (tlt (by decide)).2.1 w_k))) ?_
  show Gd _ _ _ _ (T18.setTop (mkF m 41 #[.val (.ref (ad 0)), .unset] []))
  refine Gd.go (fun _ w_k => XS.aloadN X18.here hx rfl (hb hby d10_41) rfl rfl w_k) ?_
  show Gd _ _ _ _ (T18.setTop (mkF m 42 #[.val (.ref (ad 0)), .unset] [(.ref (ad 0))]))
  obtain ⟨v20, T20, L20, X20, hQ20, st20⟩ := own_callP X18 hx hZ (y := (⟨"com/example/nearfield/nearfield/job/RankedReads", "keepFresh", "()V"⟩ : MethodName)) (y' := (⟨"com/example/nearfield/nearfield/job/RankedReads", "rank", "(JJI)V"⟩ : MethodName)) hown (ow hw 83 rfl) (ow hw 54 rfl) rfl (ow hw 85 rfl) (ow hw 84 rfl) (ow hw 4 rfl) (ow hw 86 rfl) (by decide) H15.2.2.1 (W := 0) (own_c11_1 l Z a0 hw h14 n0 ad (ad 1) (ad 2) v_ra (0 : Int32) v_at v_nx (0 : Int32) v_c2 (3 : Int32) v_l10 v_l11 v_l12 v_l20 v_l21 v_l22 v_l30 v_l31 v_l32 v_i10 v_i11 v_i12 v_i20 v_i21 v_i22 (0 : Int32) (0 : Int32) hq1 H15) rfl rfl e18 (by decide) (by decide) (g := (mkF m 42 #[.val (.ref (ad 0)), .unset] [(.ref (ad 0))])) rfl (by rw [hml]; rfl) (argsL := []) (rest := []) (lenOf own_pd7 rfl) rfl (Nat.le_of_eq rfl) (hb hby d10_42) rfl (by decide) (by decide)
  obtain ⟨rfl, Hy19, Ny19⟩ := hQ20
  refine Gd.go (fun _ w_k => st20 _ w_k) ?_
  show Gd _ _ _ _ (T20.setTop (mkF m 45 #[.val (.ref (ad 0)), .unset] []))
  have xN21 := Fr.app xN16 Ny19
  refine Gd.go (fun _ w_k => XS.aloadN X20.here hx rfl (hb hby d10_45) rfl rfl (XS.dup X20.here hx rfl (hb hby d10_46) rfl rfl w_k)) ?_
  show Gd _ _ _ _ (T20.setTop (mkF m 47 #[.val (.ref (ad 0)), .unset] [(.ref (ad 0)), (.ref (ad 0))]))
  obtain ⟨T22, X22, e22, st22⟩ := getF X20 hx hZ hown (host := "") (Or.inl (ow hw 81 rfl)) Via.refl rfl Hy19.2.2.2.2.2.2.2.2.2.2.2.2.2.2.2.1 (g := (mkF m 47 #[.val (.ref (ad 0)), .unset] [(.ref (ad 0)), (.ref (ad 0))])) rfl rfl (hb hby d10_47)
  refine Gd.go (fun _ w_k => st22 _ (XS.iconst X22.here hx rfl (hb hby d10_50) (XS.iadd X22.here hx rfl (hb hby d10_51) rfl w_k))) ?_
  show Gd _ _ _ _ (T22.setTop (mkF m 52 #[.val (.ref (ad 0)), .unset] [(.int ((1 : Int32) + (1 : Int32))), (.ref (ad 0))]))
  rw [show ((1 : Int32) + (1 : Int32)) = (2 : Int32) from by decide]
  show Gd _ _ _ _ (T22.setTop (mkF m 52 #[.val (.ref (ad 0)), .unset] [(.int (2 : Int32)), (.ref (ad 0))]))
  obtain ⟨T23, h23, X23, e23, W23, st23⟩ := putF X22 hx hZ hown (host := "") (Or.inl (ow hw 81 rfl)) Via.refl e22 Hy19.2.2.2.2.2.2.2.2.2.2.2.2.2.2.2.1 Hy19.2.2.1 (Or.inl (ow hw 82 rfl)) (ow hw 3 rfl) (ty := .int) (by decide) rfl rfl (g := (mkF m 52 #[.val (.ref (ad 0)), .unset] [(.int (2 : Int32)), (.ref (ad 0))])) rfl rfl (hb hby d10_52)
  refine Gd.go (fun _ w_k => st23 _ w_k) ?_
  have H24 := own_w_fa hw Hy19 W23
  have xN25 := Fr.snoc X23 xN21 (H.2.1 0 (by decide))
  show Gd _ _ _ _ (T23.setTop (mkF m 55 #[.val (.ref (ad 0)), .unset] []))
  refine Gd.go (fun _ w_k => XS.goto X23.here hx rfl (pc0 := 55) (pc' := 27) rfl (hb hby d10_55) (by decide) (by decide) (XS.aloadN X23.here hx rfl (hb hby d10_27) rfl rfl w_k)) ?_
  show Gd _ _ _ _ (T23.setTop (mkF m 28 #[.val (.ref (ad 0)), .unset] [(.ref (ad 0))]))
  obtain ⟨T26, X26, e26, st26⟩ := getF X23 hx hZ hown (host := "") (Or.inl (ow hw 81 rfl)) Via.refl e23 H24.2.2.2.2.2.2.2.2.2.2.2.2.2.2.2.1 (g := (mkF m 28 #[.val (.ref (ad 0)), .unset] [(.ref (ad 0))])) rfl rfl (hb hby d10_28)
  refine Gd.go (fun _ w_k => st26 _ (XS.aloadN X26.here hx rfl (hb hby d10_31) rfl rfl w_k)) ?_
  show Gd _ _ _ _ (T26.setTop (mkF m 32 #[.val (.ref (ad 0)), .unset] [(.ref (ad 0)), (.int (2 : Int32))]))
  obtain ⟨T27, X27, e27, st27⟩ := getF X26 hx hZ hown (host := "") (Or.inl (ow hw 28 rfl)) Via.refl e26 H24.2.2.2.2.2.2.2.2.1 (g := (mkF m 32 #[.val (.ref (ad 0)), .unset] [(.ref (ad 0)), (.int (2 : Int32))])) rfl rfl (hb hby d10_32)
  refine Gd.go (fun _ w_k => st27 _ (own_getR X27 hx hZ hown (ow hw 78 rfl) e27 H24.2.2.2.2.2.2.2.2.2.2.2.2.2.2.2.2.2.2.2.2.2.2.2.2.2.2.2.2.2.1 (g := (mkF m 35 #[.val (.ref (ad 0)), .unset] [(.ref (ad 3)), (.int (2 : Int32))])) rfl rfl (hb hby d10_35) _ (XS.icmpNo X27.here hx rfl (hb hby d10_38) rfl (tlt (by decide)).2.1 w_k))) ?_
  show Gd _ _ _ _ (T27.setTop (mkF m 41 #[.val (.ref (ad 0)), .unset] []))
  refine Gd.go (fun _ w_k => XS.aloadN X27.here hx rfl (hb hby d10_41) rfl rfl w_k) ?_
  show Gd _ _ _ _ (T27.setTop (mkF m 42 #[.val (.ref (ad 0)), .unset] [(.ref (ad 0))]))
  obtain ⟨v29, T29, L29, X29, hQ29, st29⟩ := own_callP X27 hx hZ (y := (⟨"com/example/nearfield/nearfield/job/RankedReads", "keepFresh", "()V"⟩ : MethodName)) (y' := (⟨"com/example/nearfield/nearfield/job/RankedReads", "rank", "(JJI)V"⟩ : MethodName)) hown (ow hw 83 rfl) (ow hw 54 rfl) rfl (ow hw 85 rfl) (ow hw 84 rfl) (ow hw 4 rfl) (ow hw 86 rfl) (by decide) H24.2.2.1 (W := 0) (own_c11_2 l Z a0 hw h23 n0 ad (ad 1) (ad 2) v_ra (0 : Int32) v_at v_nx (0 : Int32) v_c2 (3 : Int32) v_l10 v_l11 v_l12 v_l20 v_l21 v_l22 v_l30 v_l31 v_l32 v_i10 v_i11 v_i12 v_i20 v_i21 v_i22 (0 : Int32) (0 : Int32) hq2 H24) rfl rfl e27 (by decide) (by decide) (g := (mkF m 42 #[.val (.ref (ad 0)), .unset] [(.ref (ad 0))])) rfl (by rw [hml]; rfl) (argsL := []) (rest := []) (lenOf own_pd7 rfl) rfl (Nat.le_of_eq rfl) (hb hby d10_42) rfl (by decide) (by decide)
  obtain ⟨rfl, Hy28, Ny28⟩ := hQ29
  refine Gd.go (fun _ w_k => st29 _ w_k) ?_
  show Gd _ _ _ _ (T29.setTop (mkF m 45 #[.val (.ref (ad 0)), .unset] []))
  have xN30 := Fr.app xN25 Ny28
  refine Gd.go (fun _ w_k => XS.aloadN X29.here hx rfl (hb hby d10_45) rfl rfl (XS.dup X29.here hx rfl (hb hby d10_46) rfl rfl w_k)) ?_
  show Gd _ _ _ _ (T29.setTop (mkF m 47 #[.val (.ref (ad 0)), .unset] [(.ref (ad 0)), (.ref (ad 0))]))
  obtain ⟨T31, X31, e31, st31⟩ := getF X29 hx hZ hown (host := "") (Or.inl (ow hw 81 rfl)) Via.refl rfl Hy28.2.2.2.2.2.2.2.2.2.2.2.2.2.2.2.1 (g := (mkF m 47 #[.val (.ref (ad 0)), .unset] [(.ref (ad 0)), (.ref (ad 0))])) rfl rfl (hb hby d10_47)
  refine Gd.go (fun _ w_k => st31 _ (XS.iconst X31.here hx rfl (hb hby d10_50) (XS.iadd X31.here hx rfl (hb hby d10_51) rfl w_k))) ?_
  show Gd _ _ _ _ (T31.setTop (mkF m 52 #[.val (.ref (ad 0)), .unset] [(.int ((2 : Int32) + (1 : Int32))), (.ref (ad 0))]))
  rw [show ((2 : Int32) + (1 : Int32)) = (3 : Int32) from by decide]
  show Gd _ _ _ _ (T31.setTop (mkF m 52 #[.val (.ref (ad 0)), .unset] [(.int (3 : Int32)), (.ref (ad 0))]))
  obtain ⟨T32, h32, X32, e32, W32, st32⟩ := putF X31 hx hZ hown (host := "") (Or.inl (ow hw 81 rfl)) Via.refl e31 Hy28.2.2.2.2.2.2.2.2.2.2.2.2.2.2.2.1 Hy28.2.2.1 (Or.inl (ow hw 82 rfl)) (ow hw 3 rfl) (ty := .int) (by decide) rfl rfl (g := (mkF m 52 #[.val (.ref (ad 0)), .unset] [(.int (3 : Int32)), (.ref (ad 0))])) rfl rfl (hb hby d10_52)
  refine Gd.go (fun _ w_k => st32 _ w_k) ?_
  have H33 := own_w_fa hw Hy28 W32
  have xN34 := Fr.snoc X32 xN30 (H.2.1 0 (by decide))
  show Gd _ _ _ _ (T32.setTop (mkF m 55 #[.val (.ref (ad 0)), .unset] []))
  refine Gd.go (fun _ w_k => XS.goto X32.here hx rfl (pc0 := 55) (pc' := 27) rfl (hb hby d10_55) (by decide) (by decide) (XS.aloadN X32.here hx rfl (hb hby d10_27) rfl rfl w_k)) ?_
  show Gd _ _ _ _ (T32.setTop (mkF m 28 #[.val (.ref (ad 0)), .unset] [(.ref (ad 0))]))
  obtain ⟨T35, X35, e35, st35⟩ := getF X32 hx hZ hown (host := "") (Or.inl (ow hw 81 rfl)) Via.refl e32 H33.2.2.2.2.2.2.2.2.2.2.2.2.2.2.2.1 (g := (mkF m 28 #[.val (.ref (ad 0)), .unset] [(.ref (ad 0))])) rfl rfl (hb hby d10_28)
  refine Gd.go (fun _ w_k => st35 _ (XS.aloadN X35.here hx rfl (hb hby d10_31) rfl rfl w_k)) ?_
  show Gd _ _ _ _ (T35.setTop (mkF m 32 #[.val (.ref (ad 0)), .unset] [(.ref (ad 0)), (.int (3 : Int32))]))
  obtain ⟨T36, X36, e36, st36⟩ := getF X35 hx hZ hown (host := "") (Or.inl (ow hw 28 rfl)) Via.refl e35 H33.2.2.2.2.2.2.2.2.1 (g := (mkF m 32 #[.val (.ref (ad 0)), .unset] [(.ref (ad 0)), (.int (3 : Int32))])) rfl rfl (hb hby d10_32)
  refine Gd.go (fun _ w_k => st36 _ (own_getR X36 hx hZ hown (ow hw 78 rfl) e36 H33.2.2.2.2.2.2.2.2.2.2.2.2.2.2.2.2.2.2.2.2.2.2.2.2.2.2.2.2.2.1 (g := (mkF m 35 #[.val (.ref (ad 0)), .unset] [(.ref (ad 3)), (.int (3 : Int32))])) rfl rfl (hb hby d10_35) _ (XS.icmpYes X36.here hx rfl (pc0 := 38) (pc' := 58) rfl (hb hby d10_38) rfl (flt (by decide)).2.1 (by decide) (by decide) w_k))) ?_
  show Gd _ _ _ _ (T36.setTop (mkF m 58 #[.val (.ref (ad 0)), .unset] []))
  refine Gd.go (fun _ w_k => XS.aloadN X36.here hx rfl (hb hby d10_58) rfl rfl w_k) ?_
  show Gd _ _ _ _ (T36.setTop (mkF m 59 #[.val (.ref (ad 0)), .unset] [(.ref (ad 0))]))
  obtain ⟨T37, X37, e37, st37⟩ := getF X36 hx hZ hown (host := "") (Or.inl (ow hw 28 rfl)) Via.refl e36 H33.2.2.2.2.2.2.2.2.1 (g := (mkF m 59 #[.val (.ref (ad 0)), .unset] [(.ref (ad 0))])) rfl rfl (hb hby d10_59)
  refine Gd.go (fun _ w_k => st37 _ (XS.aloadN X37.here hx rfl (hb hby d10_62) rfl rfl w_k)) ?_
  show Gd _ _ _ _ (T37.setTop (mkF m 63 #[.val (.ref (ad 0)), .unset] [(.ref (ad 0)), (.ref (ad 3))]))
  obtain ⟨T38, X38, e38, st38⟩ := getF X37 hx hZ hown (host := "") (Or.inl (ow hw 79 rfl)) Via.refl e37 H33.2.2.2.2.2.2.2.2.2.2.2.2.2.2.2.2.1 (g := (mkF m 63 #[.val (.ref (ad 0)), .unset] [(.ref (ad 0)), (.ref (ad 3))])) rfl rfl (hb hby d10_63)
  refine Gd.go (fun _ w_k => st38 _ w_k) ?_
  show Gd _ _ _ _ (T38.setTop (mkF m 66 #[.val (.ref (ad 0)), .unset] [(.int (3 : Int32)), (.ref (ad 3))]))
  obtain ⟨T39, h39, X39, e39, W39, st39⟩ := own_putR X38 hx hZ hown (ow hw 78 rfl) e38 H33.2.2.2.2.2.2.2.2.2.2.2.2.2.2.2.2.2.2.2.2.2.2.2.2.2.2.2.2.2.1 H33.2.2.2.2.2.1 (ow hw 72 rfl) (ow hw 12 rfl) (ty := .int) (by decide) rfl rfl (g := (mkF m 66 #[.val (.ref (ad 0)), .unset] [(.int (3 : Int32)), (.ref (ad 3))])) rfl rfl (hb hby d10_66)
  refine Gd.go (fun _ w_k => st39 _ w_k) ?_
  have H40 := own_w_c3 hw H33 W39
  have xN41 := Fr.snoc X39 xN34 (H.2.1 3 (by decide))
  show Gd _ _ _ _ (T39.setTop (mkF m 69 #[.val (.ref (ad 0)), .unset] []))
  refine Gd.go (fun _ w_k => XS.aloadN X39.here hx rfl (hb hby d10_69) rfl rfl w_k) ?_
  show Gd _ _ _ _ (T39.setTop (mkF m 70 #[.val (.ref (ad 0)), .unset] [(.ref (ad 0))]))
  obtain ⟨T42, X42, e42, st42⟩ := getF X39 hx hZ hown (host := "") (Or.inl (ow hw 28 rfl)) Via.refl e39 H40.2.2.2.2.2.2.2.2.1 (g := (mkF m 70 #[.val (.ref (ad 0)), .unset] [(.ref (ad 0))])) rfl rfl (hb hby d10_70)
  refine Gd.go (fun _ w_k => st42 _ (own_getR X42 hx hZ hown (ow hw 88 rfl) e42 H40.2.2.2.2.2.2.2.2.2.2.2.2.2.2.2.2.2.2.2.2.2.2.2.2.2.2.2.1 (g := (mkF m 73 #[.val (.ref (ad 0)), .unset] [(.ref (ad 3))])) rfl rfl (hb hby d10_73) _ (XS.iconst X42.here hx rfl (hb hby d10_76) (XS.aloadN X42.here hx rfl (hb hby d10_77) rfl rfl w_k)))) ?_
  show Gd _ _ _ _ (T42.setTop (mkF m 78 #[.val (.ref (ad 0)), .unset] [(.ref (ad 0)), (.int (0 : Int32)), (.ref (ad 6))]))
  obtain ⟨T43, X43, e43, st43⟩ := getF X42 hx hZ hown (host := "") (Or.inl (ow hw 28 rfl)) Via.refl e42 H40.2.2.2.2.2.2.2.2.1 (g := (mkF m 78 #[.val (.ref (ad 0)), .unset] [(.ref (ad 0)), (.int (0 : Int32)), (.ref (ad 6))])) rfl rfl (hb hby d10_78)
  refine Gd.go (fun _ w_k => st43 _ (own_getR X43 hx hZ hown (ow hw 78 rfl) e43 H40.2.2.2.2.2.2.2.2.2.2.2.2.2.2.2.2.2.2.2.2.2.2.2.2.2.2.2.2.2.1 (g := (mkF m 81 #[.val (.ref (ad 0)), .unset] [(.ref (ad 3)), (.int (0 : Int32)), (.ref (ad 6))])) rfl rfl (hb hby d10_81) _ w_k)) ?_
  show Gd _ _ _ _ (T43.setTop (mkF m 84 #[.val (.ref (ad 0)), .unset] [(.int (3 : Int32)), (.int (0 : Int32)), (.ref (ad 6))]))
  obtain ⟨v44, T44, L44, X44, hQ44, st44⟩ := own_callS X43 hx hZ (y := (⟨"java/util/Arrays", "sort", "([JII)V"⟩ : MethodName)) hown (ow hw 89 rfl) (ow hw 90 rfl) (ow hw 91 rfl) (ow hw 92 rfl) (by decide) (W := 0) (own_c12 l Z a0 hw h39 n0 (ad 6) (H40.2.1 6 (by decide)) v_l30 v_l31 v_l32 H40.2.2.2.2.2.2.2.2.2.2.2.2.2.2.2.2.2.2.2.2.2.2.2.2.2.2.2.2.2.2.2.2.1) rfl rfl e43 (by decide) (by decide) (g := (mkF m 84 #[.val (.ref (ad 0)), .unset] [(.int (3 : Int32)), (.int (0 : Int32)), (.ref (ad 6))])) rfl (by rw [hml]; rfl) (argsL := [(.ref (ad 6)), (.int (0 : Int32)), (.int (3 : Int32))]) (rest := []) (lenOf own_pd3 rfl) rfl (Nat.le_of_eq rfl) (hb hby d10_84) rfl (by decide) (by decide)
  obtain ⟨rfl, Ks, ⟨a, b, c, As, hs⟩, Ns⟩ := hQ44
  refine Gd.go (fun _ w_k => st44 _ w_k) ?_
  show Gd _ _ _ _ (T44.setTop (mkF m 87 #[.val (.ref (ad 0)), .unset] []))
  have xN45 := Fr.app xN41 Ns
  have Hs := own_H.sorted H40 Ks As
  obtain ⟨ga, gb, gc⟩ := own_srt_ix (P := fun t => own_ix ((t &&& (3 : Int64)).toInt32)) hs (own_ixL hq0 ⟨by decide, by decide⟩) (own_ixL hq1 ⟨by decide, by decide⟩) (own_ixL hq2 ⟨by decide, by decide⟩)
  refine Gd.go (fun _ w_k => XS.aloadN X44.here hx rfl (hb hby d10_87) rfl rfl w_k) ?_
  show Gd _ _ _ _ (T44.setTop (mkF m 88 #[.val (.ref (ad 0)), .unset] [(.ref (ad 0))]))
  obtain ⟨T46, X46, e46, st46⟩ := getF X44 hx hZ hown (host := "") (Or.inl (ow hw 26 rfl)) Via.refl rfl Hs.2.2.2.2.2.2.2.1 (g := (mkF m 88 #[.val (.ref (ad 0)), .unset] [(.ref (ad 0))])) rfl rfl (hb hby d10_88)
  refine Gd.go (fun _ w_k => st46 _ w_k) ?_
  show Gd _ _ _ _ (T46.setTop (mkF m 91 #[.val (.ref (ad 0)), .unset] [(.ref (ad 2))]))
  obtain ⟨v48, T48, L48, X48, hQ48, st48⟩ := own_callV X46 hx hZ (C := "com/example/nearfield/nearfield/job/RankedReads$Run") (y := (⟨"com/example/nearfield/nearfield/job/RankedReads$Run", "clear", "()V"⟩ : MethodName)) hown (ow hw 106 rfl) (ow hw 107 rfl) (ow hw 109 rfl) (ow hw 108 rfl) (ow hw 13 rfl) (ow hw 110 rfl) (by decide) Hs.2.2.2.2.1 (W := 0) (own_c17_2 l Z a0 hw T44.heap n0 ad (ad 1) (ad 2) v_ra (3 : Int32) (3 : Int32) (0 : Int32) v_at v_nx (0 : Int32) v_c2 (3 : Int32) v_l10 v_l11 v_l12 v_l20 v_l21 v_l22 a b c v_i10 v_i11 v_i12 v_i20 v_i21 v_i22 (0 : Int32) (0 : Int32) (0 : Int32) (0 : Int32) (0 : Int32) (0 : Int32)  Hs) rfl rfl e46 (by decide) (by decide) (g := (mkF m 91 #[.val (.ref (ad 0)), .unset] [(.ref (ad 2))])) rfl (by rw [hml]; rfl) (argsL := []) (rest := []) (lenOf own_pd7 rfl) rfl (Nat.le_of_eq rfl) (hb hby d10_91) rfl (by decide) (by decide)
  obtain ⟨rfl, Hy47, Ny47⟩ := hQ48
  refine Gd.go (fun _ w_k => st48 _ w_k) ?_
  show Gd _ _ _ _ (T48.setTop (mkF m 94 #[.val (.ref (ad 0)), .unset] []))
  have xN49 := Fr.app xN45 Ny47
  refine Gd.go (fun _ w_k => XS.aloadN X48.here hx rfl (hb hby d10_94) rfl rfl w_k) ?_
  show Gd _ _ _ _ (T48.setTop (mkF m 95 #[.val (.ref (ad 0)), .unset] [(.ref (ad 0))]))
  obtain ⟨T50, X50, e50, st50⟩ := getF X48 hx hZ hown (host := "") (Or.inl (ow hw 26 rfl)) Via.refl rfl Hy47.2.2.2.2.2.2.2.1 (g := (mkF m 95 #[.val (.ref (ad 0)), .unset] [(.ref (ad 0))])) rfl rfl (hb hby d10_95)
  refine Gd.go (fun _ w_k => st50 _ (XS.aloadN X50.here hx rfl (hb hby d10_98) rfl rfl w_k)) ?_
  show Gd _ _ _ _ (T50.setTop (mkF m 99 #[.val (.ref (ad 0)), .unset] [(.ref (ad 0)), (.ref (ad 2))]))
  obtain ⟨T51, X51, e51, st51⟩ := getF X50 hx hZ hown (host := "") (Or.inl (ow hw 24 rfl)) Via.refl e50 Hy47.2.2.2.2.2.2.1 (g := (mkF m 99 #[.val (.ref (ad 0)), .unset] [(.ref (ad 0)), (.ref (ad 2))])) rfl rfl (hb hby d10_99)
  refine Gd.go (fun _ w_k => st51 _ (own_getR X51 hx hZ hown (ow hw 78 rfl) e51 Hy47.2.2.2.2.2.2.2.2.2.2.2.2.2.2.2.2.2.2.2.2.2.2.2.1 (g := (mkF m 102 #[.val (.ref (ad 0)), .unset] [(.ref (ad 1)), (.ref (ad 2))])) rfl rfl (hb hby d10_102) _ (XS.aloadN X51.here hx rfl (hb hby d10_105) rfl rfl w_k))) ?_
  show Gd _ _ _ _ (T51.setTop (mkF m 106 #[.val (.ref (ad 0)), .unset] [(.ref (ad 0)), (.int (0 : Int32)), (.ref (ad 2))]))
  obtain ⟨T52, X52, e52, st52⟩ := getF X51 hx hZ hown (host := "") (Or.inl (ow hw 28 rfl)) Via.refl e51 Hy47.2.2.2.2.2.2.2.2.1 (g := (mkF m 106 #[.val (.ref (ad 0)), .unset] [(.ref (ad 0)), (.int (0 : Int32)), (.ref (ad 2))])) rfl rfl (hb hby d10_106)
  refine Gd.go (fun _ w_k => st52 _ (own_getR X52 hx hZ hown (ow hw 78 rfl) e52 Hy47.2.2.2.2.2.2.2.2.2.2.2.2.2.2.2.2.2.2.2.2.2.2.2.2.2.2.2.2.2.1 (g := (mkF m 109 #[.val (.ref (ad 0)), .unset] [(.ref (ad 3)), (.int (0 : Int32)), (.ref (ad 2))])) rfl rfl (hb hby d10_109) _ (XS.iadd X52.here hx rfl (hb hby d10_112) rfl w_k))) ?_
  show Gd _ _ _ _ (T52.setTop (mkF m 113 #[.val (.ref (ad 0)), .unset] [(.int ((0 : Int32) + (3 : Int32))), (.ref (ad 2))]))
  rw [show ((0 : Int32) + (3 : Int32)) = (3 : Int32) from by decide]
  show Gd _ _ _ _ (T52.setTop (mkF m 113 #[.val (.ref (ad 0)), .unset] [(.int (3 : Int32)), (.ref (ad 2))]))
  obtain ⟨T53, X53, e53, st53⟩ := own_callVP X52 hx hZ (C := "com/example/nearfield/nearfield/job/RankedReads$Run") (y := (⟨"com/example/nearfield/nearfield/job/RankedReads$Run", "ensure", "(I)V"⟩ : MethodName)) hown (ow hw 111 rfl) (ow hw 112 rfl) (ow hw 114 rfl) (ow hw 113 rfl) (ow hw 13 rfl) (ow hw 115 rfl) (by decide) Hy47.2.2.2.2.1 (W := 0) (own_c18 l Z a0 hw T48.heap n0 ad (ad 1) (ad 2) v_ra (3 : Int32) (3 : Int32) (0 : Int32) v_at v_nx (0 : Int32) (0 : Int32) (3 : Int32) v_l10 v_l11 v_l12 v_l20 v_l21 v_l22 a b c v_i10 v_i11 v_i12 v_i20 v_i21 v_i22 (0 : Int32) (0 : Int32) (0 : Int32) (0 : Int32) (0 : Int32) (0 : Int32) Hy47) rfl rfl e52 (by decide) (by decide) (g := (mkF m 113 #[.val (.ref (ad 0)), .unset] [(.int (3 : Int32)), (.ref (ad 2))])) rfl (by rw [hml]; rfl) (argsL := [(.int (3 : Int32))]) (rest := []) (lenOf own_pd8 rfl) rfl (Nat.le_of_eq rfl) (hb hby d10_113) rfl
  refine Gd.go (fun _ w_k => st53 _ (XS.aloadN X53.here hx rfl (hb hby d10_116) rfl rfl (XS.iconst X53.here hx rfl (hb hby d10_117) w_k))) ?_
  show Gd _ _ _ _ (T53.setTop (mkF m 118 #[.val (.ref (ad 0)), .unset] [(.int (0 : Int32)), (.ref (ad 0))]))
  obtain ⟨T54, h54, X54, e54, W54, st54⟩ := putF X53 hx hZ hown (host := "") (Or.inl (ow hw 116 rfl)) Via.refl e53 Hy47.2.2.2.2.2.2.2.2.2.2.2.2.2.2.1 Hy47.2.2.1 (Or.inl (ow hw 117 rfl)) (ow hw 3 rfl) (ty := .int) (by decide) rfl rfl (g := (mkF m 118 #[.val (.ref (ad 0)), .unset] [(.int (0 : Int32)), (.ref (ad 0))])) rfl rfl (hb hby d10_118)
  refine Gd.go (fun _ w_k => st54 _ w_k) ?_
  have H55 := own_w_ra hw Hy47 W54
  have xN56 := Fr.snoc X54 xN49 (H.2.1 0 (by decide))
  show Gd _ _ _ _ (T54.setTop (mkF m 121 #[.val (.ref (ad 0)), .unset] []))
  refine Gd.go (fun _ w_k => XS.aloadN X54.here hx rfl (hb hby d10_121) rfl rfl (XS.iconst X54.here hx rfl (hb hby d10_122) w_k)) ?_
  show Gd _ _ _ _ (T54.setTop (mkF m 123 #[.val (.ref (ad 0)), .unset] [(.int (0 : Int32)), (.ref (ad 0))]))
  obtain ⟨T57, h57, X57, e57, W57, st57⟩ := putF X54 hx hZ hown (host := "") (Or.inl (ow hw 81 rfl)) Via.refl e54 H55.2.2.2.2.2.2.2.2.2.2.2.2.2.2.2.1 H55.2.2.1 (Or.inl (ow hw 82 rfl)) (ow hw 3 rfl) (ty := .int) (by decide) rfl rfl (g := (mkF m 123 #[.val (.ref (ad 0)), .unset] [(.int (0 : Int32)), (.ref (ad 0))])) rfl rfl (hb hby d10_123)
  refine Gd.go (fun _ w_k => st57 _ w_k) ?_
  have H58 := own_w_fa hw H55 W57
  have xN59 := Fr.snoc X57 xN56 (H.2.1 0 (by decide))
  show Gd _ _ _ _ (T57.setTop (mkF m 126 #[.val (.ref (ad 0)), .unset] []))
  refine Gd.go (fun _ w_k => XS.aloadN X57.here hx rfl (hb hby d10_126) rfl rfl w_k) ?_
  show Gd _ _ _ _ (T57.setTop (mkF m 127 #[.val (.ref (ad 0)), .unset] [(.ref (ad 0))]))
  obtain ⟨T60, X60, e60, st60⟩ := getF X57 hx hZ hown (host := "") (Or.inl (ow hw 116 rfl)) Via.refl e57 H58.2.2.2.2.2.2.2.2.2.2.2.2.2.2.1 (g := (mkF m 127 #[.val (.ref (ad 0)), .unset] [(.ref (ad 0))])) rfl rfl (hb hby d10_127)
  refine Gd.go (fun _ w_k => st60 _ (XS.aloadN X60.here hx rfl (hb hby d10_130) rfl rfl w_k)) ?_
  show Gd _ _ _ _ (T60.setTop (mkF m 131 #[.val (.ref (ad 0)), .unset] [(.ref (ad 0)), (.int (0 : Int32))]))
  obtain ⟨T61, X61, e61, st61⟩ := getF X60 hx hZ hown (host := "") (Or.inl (ow hw 24 rfl)) Via.refl e60 H58.2.2.2.2.2.2.1 (g := (mkF m 131 #[.val (.ref (ad 0)), .unset] [(.ref (ad 0)), (.int (0 : Int32))])) rfl rfl (hb hby d10_131)
  refine Gd.go (fun _ w_k => st61 _ (own_getR X61 hx hZ hown (ow hw 78 rfl) e61 H58.2.2.2.2.2.2.2.2.2.2.2.2.2.2.2.2.2.2.2.2.2.2.2.1 (g := (mkF m 134 #[.val (.ref (ad 0)), .unset] [(.ref (ad 1)), (.int (0 : Int32))])) rfl rfl (hb hby d10_134) _ (XS.icmpNo X61.here hx rfl (hb hby d10_137) rfl (flt (by decide)).1 w_k))) ?_
  show Gd _ _ _ _ (T61.setTop (mkF m 140 #[.val (.ref (ad 0)), .unset] []))
  refine Gd.go (fun _ w_k => XS.aloadN X61.here hx rfl (hb hby d10_140) rfl rfl w_k) ?_
  show Gd _ _ _ _ (T61.setTop (mkF m 141 #[.val (.ref (ad 0)), .unset] [(.ref (ad 0))]))
  obtain ⟨T62, X62, e62, st62⟩ := getF X61 hx hZ hown (host := "") (Or.inl (ow hw 81 rfl)) Via.refl e61 H58.2.2.2.2.2.2.2.2.2.2.2.2.2.2.2.1 (g := (mkF m 141 #[.val (.ref (ad 0)), .unset] [(.ref (ad 0))])) rfl rfl (hb hby d10_141)
  refine Gd.go (fun _ w_k => st62 _ (XS.aloadN X62.here hx rfl (hb hby d10_144) rfl rfl w_k)) ?_
  show Gd _ _ _ _ (T62.setTop (mkF m 145 #[.val (.ref (ad 0)), .unset] [(.ref (ad 0)), (.int (0 : Int32))]))
  obtain ⟨T63, X63, e63, st63⟩ := getF X62 hx hZ hown (host := "") (Or.inl (ow hw 28 rfl)) Via.refl e62 H58.2.2.2.2.2.2.2.2.1 (g := (mkF m 145 #[.val (.ref (ad 0)), .unset] [(.ref (ad 0)), (.int (0 : Int32))])) rfl rfl (hb hby d10_145)
  refine Gd.go (fun _ w_k => st63 _ (own_getR X63 hx hZ hown (ow hw 78 rfl) e63 H58.2.2.2.2.2.2.2.2.2.2.2.2.2.2.2.2.2.2.2.2.2.2.2.2.2.2.2.2.2.1 (g := (mkF m 148 #[.val (.ref (ad 0)), .unset] [(.ref (ad 3)), (.int (0 : Int32))])) rfl rfl (hb hby d10_148) _ (XS.icmpNo X63.here hx rfl (hb hby d10_151) rfl (tlt (by decide)).2.1 w_k))) ?_
  show Gd _ _ _ _ (T63.setTop (mkF m 154 #[.val (.ref (ad 0)), .unset] []))
  refine Gd.go (fun _ w_k => XS.aloadN X63.here hx rfl (hb hby d10_154) rfl rfl w_k) ?_
  show Gd _ _ _ _ (T63.setTop (mkF m 155 #[.val (.ref (ad 0)), .unset] [(.ref (ad 0))]))
  obtain ⟨v65, T65, L65, X65, hQ65, st65⟩ := own_callP X63 hx hZ (y := (⟨"com/example/nearfield/nearfield/job/RankedReads", "mergeSome", "()V"⟩ : MethodName)) (y' := (⟨"com/example/nearfield/nearfield/job/RankedReads", "rank", "(JJI)V"⟩ : MethodName)) hown (ow hw 118 rfl) (ow hw 54 rfl) rfl (ow hw 120 rfl) (ow hw 119 rfl) (ow hw 4 rfl) (ow hw 121 rfl) (by decide) H58.2.2.1 (W := 0) (own_c19 l Z a0 hw h57 n0 ad (3 : Int32) (0 : Int32) v_at v_nx v_l10 v_l11 v_l12 v_l20 v_l21 v_l22 a b c v_i10 v_i11 v_i12 v_i20 v_i21 v_i22 (0 : Int32) (0 : Int32) (0 : Int32) ga gb gc H58) rfl rfl e63 (by decide) (by decide) (g := (mkF m 155 #[.val (.ref (ad 0)), .unset] [(.ref (ad 0))])) rfl (by rw [hml]; rfl) (argsL := []) (rest := []) (lenOf own_pd7 rfl) rfl (Nat.le_of_eq rfl) (hb hby d10_155) rfl (by decide) (by decide)
  obtain ⟨rfl, Hy64, Ny64⟩ := hQ65
  refine Gd.go (fun _ w_k => st65 _ w_k) ?_
  show Gd _ _ _ _ (T65.setTop (mkF m 158 #[.val (.ref (ad 0)), .unset] []))
  have xN66 := Fr.app xN59 Ny64
  refine Gd.go (fun _ w_k => XS.goto X65.here hx rfl (pc0 := 158) (pc' := 126) rfl (hb hby d10_158) (by decide) (by decide) (XS.aloadN X65.here hx rfl (hb hby d10_126) rfl rfl w_k)) ?_
  show Gd _ _ _ _ (T65.setTop (mkF m 127 #[.val (.ref (ad 0)), .unset] [(.ref (ad 0))]))
  obtain ⟨T67, X67, e67, st67⟩ := getF X65 hx hZ hown (host := "") (Or.inl (ow hw 116 rfl)) Via.refl rfl Hy64.2.2.2.2.2.2.2.2.2.2.2.2.2.2.1 (g := (mkF m 127 #[.val (.ref (ad 0)), .unset] [(.ref (ad 0))])) rfl rfl (hb hby d10_127)
  refine Gd.go (fun _ w_k => st67 _ (XS.aloadN X67.here hx rfl (hb hby d10_130) rfl rfl w_k)) ?_
  show Gd _ _ _ _ (T67.setTop (mkF m 131 #[.val (.ref (ad 0)), .unset] [(.ref (ad 0)), (.int (0 : Int32))]))
  obtain ⟨T68, X68, e68, st68⟩ := getF X67 hx hZ hown (host := "") (Or.inl (ow hw 24 rfl)) Via.refl e67 Hy64.2.2.2.2.2.2.1 (g := (mkF m 131 #[.val (.ref (ad 0)), .unset] [(.ref (ad 0)), (.int (0 : Int32))])) rfl rfl (hb hby d10_131)
  refine Gd.go (fun _ w_k => st68 _ (own_getR X68 hx hZ hown (ow hw 78 rfl) e68 Hy64.2.2.2.2.2.2.2.2.2.2.2.2.2.2.2.2.2.2.2.2.2.2.2.1 (g := (mkF m 134 #[.val (.ref (ad 0)), .unset] [(.ref (ad 1)), (.int (0 : Int32))])) rfl rfl (hb hby d10_134) _ (XS.icmpNo X68.here hx rfl (hb hby d10_137) rfl (flt (by decide)).1 w_k))) ?_
  show Gd _ _ _ _ (T68.setTop (mkF m 140 #[.val (.ref (ad 0)), .unset] []))
  refine Gd.go (fun _ w_k => XS.aloadN X68.here hx rfl (hb hby d10_140) rfl rfl w_k) ?_
  show Gd _ _ _ _ (T68.setTop (mkF m 141 #[.val (.ref (ad 0)), .unset] [(.ref (ad 0))]))
  obtain ⟨T69, X69, e69, st69⟩ := getF X68 hx hZ hown (host := "") (Or.inl (ow hw 81 rfl)) Via.refl e68 Hy64.2.2.2.2.2.2.2.2.2.2.2.2.2.2.2.1 (g := (mkF m 141 #[.val (.ref (ad 0)), .unset] [(.ref (ad 0))])) rfl rfl (hb hby d10_141)
  refine Gd.go (fun _ w_k => st69 _ (XS.aloadN X69.here hx rfl (hb hby d10_144) rfl rfl w_k)) ?_
  show Gd _ _ _ _ (T69.setTop (mkF m 145 #[.val (.ref (ad 0)), .unset] [(.ref (ad 0)), (.int (3 : Int32))]))
  obtain ⟨T70, X70, e70, st70⟩ := getF X69 hx hZ hown (host := "") (Or.inl (ow hw 28 rfl)) Via.refl e69 Hy64.2.2.2.2.2.2.2.2.1 (g := (mkF m 145 #[.val (.ref (ad 0)), .unset] [(.ref (ad 0)), (.int (3 : Int32))])) rfl rfl (hb hby d10_145)
  refine Gd.go (fun _ w_k => st70 _ (own_getR X70 hx hZ hown (ow hw 78 rfl) e70 Hy64.2.2.2.2.2.2.2.2.2.2.2.2.2.2.2.2.2.2.2.2.2.2.2.2.2.2.2.2.2.1 (g := (mkF m 148 #[.val (.ref (ad 0)), .unset] [(.ref (ad 3)), (.int (3 : Int32))])) rfl rfl (hb hby d10_148) _ (XS.icmpYes X70.here hx rfl (pc0 := 151) (pc' := 161) rfl (hb hby d10_151) rfl (flt (by decide)).2.1 (by decide) (by decide) w_k))) ?_
  show Gd _ _ _ _ (T70.setTop (mkF m 161 #[.val (.ref (ad 0)), .unset] []))
  refine Gd.go (fun _ w_k => XS.aloadN X70.here hx rfl (hb hby d10_161) rfl rfl w_k) ?_
  show Gd _ _ _ _ (T70.setTop (mkF m 162 #[.val (.ref (ad 0)), .unset] [(.ref (ad 0))]))
  obtain ⟨T71, X71, e71, st71⟩ := getF X70 hx hZ hown (host := "") (Or.inl (ow hw 28 rfl)) Via.refl e70 Hy64.2.2.2.2.2.2.2.2.1 (g := (mkF m 162 #[.val (.ref (ad 0)), .unset] [(.ref (ad 0))])) rfl rfl (hb hby d10_162)
  refine Gd.go (fun _ w_k => st71 _ w_k) ?_
  show Gd _ _ _ _ (T71.setTop (mkF m 165 #[.val (.ref (ad 0)), .unset] [(.ref (ad 3))]))
  obtain ⟨v73, T73, L73, X73, hQ73, st73⟩ := own_callV X71 hx hZ (C := "com/example/nearfield/nearfield/job/RankedReads$Run") (y := (⟨"com/example/nearfield/nearfield/job/RankedReads$Run", "clear", "()V"⟩ : MethodName)) hown (ow hw 106 rfl) (ow hw 107 rfl) (ow hw 109 rfl) (ow hw 108 rfl) (ow hw 13 rfl) (ow hw 110 rfl) (by decide) Hy64.2.2.2.2.2.1 (W := 0) (own_c17_3 l Z a0 hw T65.heap n0 ad (ad 1) (ad 2) (0 : Int32) (3 : Int32) (3 : Int32) (0 : Int32) v_at v_nx (0 : Int32) (3 : Int32) (3 : Int32) v_l10 v_l11 v_l12 a b c a b c v_i10 v_i11 v_i12 (0 : Int32) (0 : Int32) (0 : Int32) (0 : Int32) (0 : Int32) (0 : Int32) (0 : Int32) (0 : Int32) (0 : Int32)  Hy64) rfl rfl e71 (by decide) (by decide) (g := (mkF m 165 #[.val (.ref (ad 0)), .unset] [(.ref (ad 3))])) rfl (by rw [hml]; rfl) (argsL := []) (rest := []) (lenOf own_pd7 rfl) rfl (Nat.le_of_eq rfl) (hb hby d10_165) rfl (by decide) (by decide)
  obtain ⟨rfl, Hy72, Ny72⟩ := hQ73
  refine Gd.go (fun _ w_k => st73 _ w_k) ?_
  show Gd _ _ _ _ (T73.setTop (mkF m 168 #[.val (.ref (ad 0)), .unset] []))
  have xN74 := Fr.app xN66 Ny72
  refine Gd.go (fun _ w_k => XS.aloadN X73.here hx rfl (hb hby d10_168) rfl rfl (XS.iconst X73.here hx rfl (hb hby d10_169) w_k)) ?_
  show Gd _ _ _ _ (T73.setTop (mkF m 170 #[.val (.ref (ad 0)), .unset] [(.int (0 : Int32)), (.ref (ad 0))]))
  obtain ⟨T75, h75, X75, e75, W75, st75⟩ := putF X73 hx hZ hown (host := "") (Or.inl (ow hw 122 rfl)) Via.refl rfl Hy72.2.2.2.2.2.2.2.2.2.2.2.2.2.2.2.2.2.2.1 Hy72.2.2.1 (Or.inl (ow hw 123 rfl)) (ow hw 3 rfl) (ty := .boolean) (by decide) rfl rfl (g := (mkF m 170 #[.val (.ref (ad 0)), .unset] [(.int (0 : Int32)), (.ref (ad 0))])) rfl rfl (hb hby d10_170)
  refine Gd.go (fun _ w_k => st75 _ w_k) ?_
  have H76 := own_w_an hw Hy72 W75
  have xN77 := Fr.snoc X75 xN74 (H.2.1 0 (by decide))
  show Gd _ _ _ _ (T75.setTop (mkF m 173 #[.val (.ref (ad 0)), .unset] []))
  refine Gd.go (fun _ w_k => XS.aloadN X75.here hx rfl (hb hby d10_173) rfl rfl w_k) ?_
  show Gd _ _ _ _ (T75.setTop (mkF m 174 #[.val (.ref (ad 0)), .unset] [(.ref (ad 0))]))
  obtain ⟨T78, X78, e78, st78⟩ := getF X75 hx hZ hown (host := "") (Or.inl (ow hw 24 rfl)) Via.refl e75 H76.2.2.2.2.2.2.1 (g := (mkF m 174 #[.val (.ref (ad 0)), .unset] [(.ref (ad 0))])) rfl rfl (hb hby d10_174)
  refine Gd.go (fun _ w_k => st78 _ (XS.astoreN X78.here hx rfl (hb hby d10_177) rfl rfl (l' := #[.val (.ref (ad 0)), .val (.ref (ad 1))]) rfl (XS.aloadN X78.here hx rfl (hb hby d10_178) rfl rfl (XS.aloadN X78.here hx rfl (hb hby d10_179) rfl rfl w_k)))) ?_
  show Gd _ _ _ _ (T78.setTop (mkF m 180 #[.val (.ref (ad 0)), .val (.ref (ad 1))] [(.ref (ad 0)), (.ref (ad 0))]))
  obtain ⟨T79, X79, e79, st79⟩ := getF X78 hx hZ hown (host := "") (Or.inl (ow hw 26 rfl)) Via.refl e78 H76.2.2.2.2.2.2.2.1 (g := (mkF m 180 #[.val (.ref (ad 0)), .val (.ref (ad 1))] [(.ref (ad 0)), (.ref (ad 0))])) rfl rfl (hb hby d10_180)
  refine Gd.go (fun _ w_k => st79 _ w_k) ?_
  show Gd _ _ _ _ (T79.setTop (mkF m 183 #[.val (.ref (ad 0)), .val (.ref (ad 1))] [(.ref (ad 2)), (.ref (ad 0))]))
  obtain ⟨T80, h80, X80, e80, W80, st80⟩ := putF X79 hx hZ hown (host := "") (Or.inl (ow hw 24 rfl)) Via.refl e79 H76.2.2.2.2.2.2.1 H76.2.2.1 (Or.inl (ow hw 25 rfl)) (ow hw 3 rfl) (ty := (.object "com/example/nearfield/nearfield/job/RankedReads$Run")) (by decide) rfl rfl (g := (mkF m 183 #[.val (.ref (ad 0)), .val (.ref (ad 1))] [(.ref (ad 2)), (.ref (ad 0))])) rfl rfl (hb hby d10_183)
  refine Gd.go (fun _ w_k => st80 _ w_k) ?_
  have H81 := own_w_rn hw H76 W80
  have xN82 := Fr.snoc X80 xN77 (H.2.1 0 (by decide))
  show Gd _ _ _ _ (T80.setTop (mkF m 186 #[.val (.ref (ad 0)), .val (.ref (ad 1))] []))
  refine Gd.go (fun _ w_k => XS.aloadN X80.here hx rfl (hb hby d10_186) rfl rfl (XS.aloadN X80.here hx rfl (hb hby d10_187) rfl rfl w_k)) ?_
  show Gd _ _ _ _ (T80.setTop (mkF m 188 #[.val (.ref (ad 0)), .val (.ref (ad 1))] [(.ref (ad 1)), (.ref (ad 0))]))
  obtain ⟨T83, h83, X83, e83, W83, st83⟩ := putF X80 hx hZ hown (host := "") (Or.inl (ow hw 26 rfl)) Via.refl e80 H81.2.2.2.2.2.2.2.1 H81.2.2.1 (Or.inl (ow hw 27 rfl)) (ow hw 3 rfl) (ty := (.object "com/example/nearfield/nearfield/job/RankedReads$Run")) (by decide) rfl rfl (g := (mkF m 188 #[.val (.ref (ad 0)), .val (.ref (ad 1))] [(.ref (ad 1)), (.ref (ad 0))])) rfl rfl (hb hby d10_188)
  refine Gd.go (fun _ w_k => st83 _ w_k) ?_
  have H84 := own_w_mg hw H81 W83
  have xN85 := Fr.snoc X83 xN82 (H.2.1 0 (by decide))
  show Gd _ _ _ _ (T83.setTop (mkF m 191 #[.val (.ref (ad 0)), .val (.ref (ad 1))] []))
  refine Gd.go (fun _ w_k => XS.aloadN X83.here hx rfl (hb hby d10_191) rfl rfl (XS.iconst X83.here hx rfl (hb hby d10_192) w_k)) ?_
  show Gd _ _ _ _ (T83.setTop (mkF m 193 #[.val (.ref (ad 0)), .val (.ref (ad 1))] [(.int (-1 : Int32)), (.ref (ad 0))]))
  obtain ⟨T86, h86, X86, e86, W86, st86⟩ := putF X83 hx hZ hown (host := "") (Or.inl (ow hw 124 rfl)) Via.refl e83 H84.2.2.2.2.2.2.2.2.2.2.2.2.2.2.2.2.2.2.2.1 H84.2.2.1 (Or.inl (ow hw 125 rfl)) (ow hw 3 rfl) (ty := .int) (by decide) rfl rfl (g := (mkF m 193 #[.val (.ref (ad 0)), .val (.ref (ad 1))] [(.int (-1 : Int32)), (.ref (ad 0))])) rfl rfl (hb hby d10_193)
  refine Gd.go (fun _ w_k => st86 _ w_k) ?_
  have H87 := own_w_at hw H84 W86
  have xN88 := Fr.snoc X86 xN85 (H.2.1 0 (by decide))
  show Gd _ _ _ _ (T86.setTop (mkF m 196 #[.val (.ref (ad 0)), .val (.ref (ad 1))] []))
  refine Gd.go (fun _ w_k => XS.aloadN X86.here hx rfl (hb hby d10_196) rfl rfl w_k) ?_
  show Gd _ _ _ _ (T86.setTop (mkF m 197 #[.val (.ref (ad 0)), .val (.ref (ad 1))] [(.ref (ad 0))]))
  obtain ⟨v89, T89, L89, X89, hQ89, st89⟩ := own_callV X86 hx hZ (C := "com/example/nearfield/nearfield/job/RankedReads") (y := (⟨"com/example/nearfield/nearfield/job/RankedReads", "next", "()V"⟩ : MethodName)) hown (ow hw 126 rfl) (ow hw 127 rfl) (ow hw 129 rfl) (ow hw 128 rfl) (ow hw 4 rfl) (ow hw 130 rfl) (by decide) H87.2.2.1 (W := 0) (own_c20_m l Z a0 hw h86 n0 ad (ad 1) (0 : Int32) (3 : Int32) (3 : Int32) (0 : Int32) v_nx (0 : Int32) (0 : Int32) v_l10 v_l11 v_l12 a b c a b c v_i10 v_i11 v_i12 (0 : Int32) (0 : Int32) (0 : Int32) (0 : Int32) (0 : Int32) (0 : Int32) ga (own_k0 _) H87) rfl rfl e86 (by decide) (by decide) (g := (mkF m 197 #[.val (.ref (ad 0)), .val (.ref (ad 1))] [(.ref (ad 0))])) rfl (by rw [hml]; rfl) (argsL := []) (rest := []) (lenOf own_pd7 rfl) rfl (Nat.le_of_eq rfl) (hb hby d10_197) rfl (by decide) (by decide)
  obtain ⟨rfl, Hn, -, Nn⟩ := hQ89
  refine Gd.go (fun _ w_k => st89 _ w_k) ?_
  show Gd _ _ _ _ (T89.setTop (mkF m 200 #[.val (.ref (ad 0)), .val (.ref (ad 1))] []))
  have xN90 := Fr.app xN88 Nn
  refine own_retV X89 hx hret hlk (hb hby d10_200) ?_ (by decide) (by decide)
  exact ⟨rfl, ⟨a, b, c, hs, Hn⟩, xN90⟩
theorem own_dummy : True := trivial
theorem own_pn21 : plainFor (⟨"java/lang/Math", "max", "(II)I"⟩ : MethodName) = true := by first | exact plainFor_of_name (by first | (simp [plainName, overriddenIn, x]; done) | decide +kernel) | decide +kernel
theorem ef_4 (m : MethodId) (q0 : Int32) (q1 : Int32) : entryFrame m #[(.int q0), (.int q1)] 2 = mkF m 0 #[.val (.int q0), .val (.int q1)] [] := by first | (simp [entryFrame, mkF, argsToLocals, Value.category, maxLocals]; done) | rfl
theorem d4_0 : decode jdk_29_method_65_code 0 = .ok (.iload_n 0, 1) := by decide +kernel
theorem d4_1 : decode jdk_29_method_65_code 1 = .ok (.iload_n 1, 1) := by decide +kernel
theorem d4_2 : decode jdk_29_method_65_code 2 = .ok (.if_icmp .lt 7, 3) := by decide +kernel
theorem d4_9 : decode jdk_29_method_65_code 9 = .ok (.iload_n 1, 1) := by decide +kernel
theorem d4_10 : decode jdk_29_method_65_code 10 = .ok (.ireturn, 1) := by decide +kernel
set_option maxRecDepth 65536 in
set_option maxHeartbeats 40000000 in
theorem own_c4 (l : Launch) (Z : State) (a0 : Array Value) (hw : ∀ d ∈ tables_1, d.before a0 Z = true) (h0 : Heap) :
    Con l Z (⟨"java/lang/Math", "max", "(II)I"⟩ : MethodName) jdk_29_method_65_code 2 (some .int) [] ({ frames := 0, cells := 0, slots := 0, locals := 0 } : Room) 0 0 #[(.int (1 : Int32)), (.int (2 : Int32))] h0 (fun r h L => r = some (.int (2 : Int32)) ∧ h = h0 ∧ L = []) := by
  refine Con.of own_pn21 ?_
  intro pg ev s_ m bl mt cd s₁ hx hby hml hown hnm hret hlk hZ X0 e0
  rw [ef_4]
  show Gd _ _ _ _ (s₁.setTop (mkF m 0 #[.val (.int (1 : Int32)), .val (.int (2 : Int32))] []))
  refine Gd.go (fun _ w_k => XS.iloadN X0.here hx rfl (hb hby d4_0) rfl (XS.iloadN X0.here hx rfl (hb hby d4_1) rfl (XS.icmpYes X0.here hx rfl (pc0 := 2) (pc' := 9) rfl (hb hby d4_2) rfl (tlt (by decide)).1 (by decide) (by decide) w_k))) ?_
  show Gd _ _ _ _ (s₁.setTop (mkF m 9 #[.val (.int (1 : Int32)), .val (.int (2 : Int32))] []))
  refine Gd.go (fun _ w_k => XS.iloadN X0.here hx rfl (hb hby d4_9) rfl w_k) ?_
  show Gd _ _ _ _ (s₁.setTop (mkF m 10 #[.val (.int (1 : Int32)), .val (.int (2 : Int32))] [(.int (2 : Int32))]))
  refine own_retI X0 hx hret hlk (hb hby d4_10) ?_ (by decide) (by decide)
  exact ⟨rfl, e0, rfl⟩
theorem own_pn22 : plainFor (⟨"java/lang/Integer", "numberOfLeadingZeros", "(I)I"⟩ : MethodName) = true := by first | exact plainFor_of_name (by first | (simp [plainName, overriddenIn, x]; done) | decide +kernel) | decide +kernel
theorem ef_5 (m : MethodId) (q0 : Int32) : entryFrame m #[(.int q0)] 2 = mkF m 0 #[.val (.int q0), .unset] [] := by first | (simp [entryFrame, mkF, argsToLocals, Value.category, maxLocals]; done) | rfl
theorem d5_0 : decode jdk_33_method_47_code 0 = .ok (.iload_n 0, 1) := by decide +kernel
theorem d5_1 : decode jdk_33_method_47_code 1 = .ok (.ifCond .gt 14, 3) := by decide +kernel
theorem d5_15 : decode jdk_33_method_47_code 15 = .ok (.bipush 31, 2) := by decide +kernel
theorem d5_17 : decode jdk_33_method_47_code 17 = .ok (.istore_n 1, 1) := by decide +kernel
theorem d5_18 : decode jdk_33_method_47_code 18 = .ok (.iload_n 0, 1) := by decide +kernel
theorem d5_19 : decode jdk_33_method_47_code 19 = .ok (.ldc_w 264, 3) := by decide +kernel
theorem d5_22 : decode jdk_33_method_47_code 22 = .ok (.if_icmp .lt 11, 3) := by decide +kernel
theorem d5_33 : decode jdk_33_method_47_code 33 = .ok (.iload_n 0, 1) := by decide +kernel
theorem d5_34 : decode jdk_33_method_47_code 34 = .ok (.sipush 256, 3) := by decide +kernel
theorem d5_37 : decode jdk_33_method_47_code 37 = .ok (.if_icmp .lt 11, 3) := by decide +kernel
theorem d5_48 : decode jdk_33_method_47_code 48 = .ok (.iload_n 0, 1) := by decide +kernel
theorem d5_49 : decode jdk_33_method_47_code 49 = .ok (.bipush 16, 2) := by decide +kernel
theorem d5_51 : decode jdk_33_method_47_code 51 = .ok (.if_icmp .lt 10, 3) := by decide +kernel
theorem d5_61 : decode jdk_33_method_47_code 61 = .ok (.iload_n 0, 1) := by decide +kernel
theorem d5_62 : decode jdk_33_method_47_code 62 = .ok (.iconst 4, 1) := by decide +kernel
theorem d5_63 : decode jdk_33_method_47_code 63 = .ok (.if_icmp .lt 10, 3) := by decide +kernel
theorem d5_73 : decode jdk_33_method_47_code 73 = .ok (.iload_n 1, 1) := by decide +kernel
theorem d5_74 : decode jdk_33_method_47_code 74 = .ok (.iload_n 0, 1) := by decide +kernel
theorem d5_75 : decode jdk_33_method_47_code 75 = .ok (.iconst 1, 1) := by decide +kernel
theorem d5_76 : decode jdk_33_method_47_code 76 = .ok (.iushr, 1) := by decide +kernel
theorem d5_77 : decode jdk_33_method_47_code 77 = .ok (.isub, 1) := by decide +kernel
theorem d5_78 : decode jdk_33_method_47_code 78 = .ok (.ireturn, 1) := by decide +kernel
set_option maxRecDepth 65536 in
set_option maxHeartbeats 40000000 in
theorem own_c5 (l : Launch) (Z : State) (a0 : Array Value) (hw : ∀ d ∈ tables_1, d.before a0 Z = true) (h0 : Heap) :
    Con l Z (⟨"java/lang/Integer", "numberOfLeadingZeros", "(I)I"⟩ : MethodName) jdk_33_method_47_code 2 (some .int) [] ({ frames := 0, cells := 0, slots := 0, locals := 0 } : Room) 0 0 #[(.int (2 : Int32))] h0 (fun r h L => r = some (.int (30 : Int32)) ∧ h = h0 ∧ L = []) := by
  refine Con.of own_pn22 ?_
  intro pg ev s_ m bl mt cd s₁ hx hby hml hown hnm hret hlk hZ X0 e0
  rw [ef_5]
  show Gd _ _ _ _ (s₁.setTop (mkF m 0 #[.val (.int (2 : Int32)), .unset] []))
  refine Gd.go (fun _ w_k => XS.iloadN X0.here hx rfl (hb hby d5_0) rfl (XS.ifYes X0.here hx rfl (pc0 := 1) (pc' := 15) rfl (hb hby d5_1) rfl ((if0 _ _).trans (tlt (by decide)).2.2.1) (by decide) (by decide) w_k)) ?_
  show Gd _ _ _ _ (s₁.setTop (mkF m 15 #[.val (.int (2 : Int32)), .unset] []))
  refine Gd.go (fun _ w_k => XS.bipush X0.here hx rfl (hb hby d5_15) (XS.istoreN X0.here hx rfl (hb hby d5_17) rfl (l' := #[.val (.int (2 : Int32)), .val (.int (31 : Int32))]) rfl (XS.iloadN X0.here hx rfl (hb hby d5_18) rfl (X0.ldcwInt hx hown (mvT hZ (ow hw 38 rfl)) (g := (mkF m 19 #[.val (.int (2 : Int32)), .val (.int (31 : Int32))] [(.int (2 : Int32))])) rfl (hb hby d5_19) _ (XS.icmpYes X0.here hx rfl (pc0 := 22) (pc' := 33) rfl (hb hby d5_22) rfl (tlt (by decide)).1 (by decide) (by decide) w_k))))) ?_
  show Gd _ _ _ _ (s₁.setTop (mkF m 33 #[.val (.int (2 : Int32)), .val (.int (31 : Int32))] []))
  refine Gd.go (fun _ w_k => XS.iloadN X0.here hx rfl (hb hby d5_33) rfl (XS.sipush X0.here hx rfl (hb hby d5_34) (XS.icmpYes X0.here hx rfl (pc0 := 37) (pc' := 48) rfl (hb hby d5_37) rfl (tlt (by decide)).1 (by decide) (by decide) w_k))) ?_
  show Gd _ _ _ _ (s₁.setTop (mkF m 48 #[.val (.int (2 : Int32)), .val (.int (31 : Int32))] []))
  refine Gd.go (fun _ w_k => XS.iloadN X0.here hx rfl (hb hby d5_48) rfl (XS.bipush X0.here hx rfl (hb hby d5_49) (XS.icmpYes X0.here hx rfl (pc0 := 51) (pc' := 61) rfl (hb hby d5_51) rfl (tlt (by decide)).1 (by decide) (by decide) w_k))) ?_
  show Gd _ _ _ _ (s₁.setTop (mkF m 61 #[.val (.int (2 : Int32)), .val (.int (31 : Int32))] []))
  refine Gd.go (fun _ w_k => XS.iloadN X0.here hx rfl (hb hby d5_61) rfl (XS.iconst X0.here hx rfl (hb hby d5_62) (XS.icmpYes X0.here hx rfl (pc0 := 63) (pc' := 73) rfl (hb hby d5_63) rfl (tlt (by decide)).1 (by decide) (by decide) w_k))) ?_
  show Gd _ _ _ _ (s₁.setTop (mkF m 73 #[.val (.int (2 : Int32)), .val (.int (31 : Int32))] []))
  refine Gd.go (fun _ w_k => XS.iloadN X0.here hx rfl (hb hby d5_73) rfl (XS.iloadN X0.here hx rfl (hb hby d5_74) rfl (XS.iconst X0.here hx rfl (hb hby d5_75) (XS.iushr X0.here hx rfl (hb hby d5_76) rfl w_k)))) ?_
  show Gd _ _ _ _ (s₁.setTop (mkF m 77 #[.val (.int (2 : Int32)), .val (.int (31 : Int32))] [(.int (((2 : Int32).toUInt32 >>> ((1 : Int32) &&& 31).toUInt32).toInt32)), (.int (31 : Int32))]))
  rw [show (((2 : Int32).toUInt32 >>> ((1 : Int32) &&& 31).toUInt32).toInt32) = (1 : Int32) from by decide]
  show Gd _ _ _ _ (s₁.setTop (mkF m 77 #[.val (.int (2 : Int32)), .val (.int (31 : Int32))] [(.int (1 : Int32)), (.int (31 : Int32))]))
  refine Gd.go (fun _ w_k => XS.isub X0.here hx rfl (hb hby d5_77) rfl w_k) ?_
  show Gd _ _ _ _ (s₁.setTop (mkF m 78 #[.val (.int (2 : Int32)), .val (.int (31 : Int32))] [(.int ((31 : Int32) - (1 : Int32)))]))
  rw [show ((31 : Int32) - (1 : Int32)) = (30 : Int32) from by decide]
  show Gd _ _ _ _ (s₁.setTop (mkF m 78 #[.val (.int (2 : Int32)), .val (.int (31 : Int32))] [(.int (30 : Int32))]))
  refine own_retI X0 hx hret hlk (hb hby d5_78) ?_ (by decide) (by decide)
  exact ⟨rfl, e0, rfl⟩
theorem own_pn23 : plainFor (⟨"com/example/nearfield/nearfield/job/RankedReads$Run", "<init>", "()V"⟩ : MethodName) = true := by first | exact plainFor_of_name (by first | (simp [plainName, overriddenIn, x]; done) | decide +kernel) | decide +kernel
theorem ef_3 (m : MethodId) (q0 : Addr) : entryFrame m #[(.ref q0)] 1 = mkF m 0 #[.val (.ref q0)] [] := by first | (simp [entryFrame, mkF, argsToLocals, Value.category, maxLocals]; done) | rfl
theorem d3_0 : decode prog_99_method_1_code 0 = .ok (.aload_n 0, 1) := by decide +kernel
theorem d3_1 : decode prog_99_method_1_code 1 = .ok (.invokespecial 1, 3) := by decide +kernel
theorem d3_4 : decode prog_99_method_1_code 4 = .ok (.aload_n 0, 1) := by decide +kernel
theorem d3_5 : decode prog_99_method_1_code 5 = .ok (.bipush 16, 2) := by decide +kernel
theorem d3_7 : decode prog_99_method_1_code 7 = .ok (.newarray .long, 2) := by decide +kernel
theorem d3_9 : decode prog_99_method_1_code 9 = .ok (.putfield 7, 3) := by decide +kernel
theorem d3_12 : decode prog_99_method_1_code 12 = .ok (.aload_n 0, 1) := by decide +kernel
theorem d3_13 : decode prog_99_method_1_code 13 = .ok (.bipush 16, 2) := by decide +kernel
theorem d3_15 : decode prog_99_method_1_code 15 = .ok (.newarray .int, 2) := by decide +kernel
theorem d3_17 : decode prog_99_method_1_code 17 = .ok (.putfield 13, 3) := by decide +kernel
theorem d3_20 : decode prog_99_method_1_code 20 = .ok (.return_, 1) := by decide +kernel
set_option maxRecDepth 65536 in
set_option maxHeartbeats 40000000 in
theorem own_c3 (l : Launch) (Z : State) (a0 : Array Value) (hw : ∀ d ∈ tables_1, d.before a0 Z = true) (b : Addr) (h0 : Heap) (n0 : Nat) (Z0 : n0 ≤ h0.size) (gb : n0 ≤ b) (E0 : Exa Z h0 b "com/example/nearfield/nearfield/job/RankedReads$Run") (F1 : Fld Z h0 b "com/example/nearfield/nearfield/job/RankedReads$Run" "rank" "[J" .null) (F2 : Fld Z h0 b "com/example/nearfield/nearfield/job/RankedReads$Run" "ranking" "[I" .null) (F3 : Fld Z h0 b "com/example/nearfield/nearfield/job/RankedReads$Run" "count" "I" (.int (0 : Int32))) :
    Con l Z (⟨"com/example/nearfield/nearfield/job/RankedReads$Run", "<init>", "()V"⟩ : MethodName) prog_99_method_1_code 1 none [] ({ frames := 1, cells := 2, slots := 32, locals := 12 } : Room) 2 32 #[(.ref b)] h0 (fun r h L => r = none ∧ ∃ R I, h0.size ≤ R ∧ R < I ∧ I < h.size ∧ Keep h0 h [b] ∧ Exa Z h b "com/example/nearfield/nearfield/job/RankedReads$Run" ∧ Fld Z h b "com/example/nearfield/nearfield/job/RankedReads$Run" "rank" "[J" (.ref R) ∧ Fld Z h b "com/example/nearfield/nearfield/job/RankedReads$Run" "ranking" "[I" (.ref I) ∧ Fld Z h b "com/example/nearfield/nearfield/job/RankedReads$Run" "count" "I" (.int (0 : Int32)) ∧ ArF Z h R .long 16 (own_J 0 0 0) ∧ ArF Z h I .int 16 (own_I 0 0 0) ∧ Fr n0 L) := by
  refine Con.of own_pn23 ?_
  intro pg ev s_ m bl mt cd s₁ hx hby hml hown hnm hret hlk hZ X0 e0
  rw [ef_3]
  show Gd _ _ _ _ (s₁.setTop (mkF m 0 #[.val (.ref b)] []))
  have N0 := Fr.nil n0
  have K0 := Keep.refl h0 [b]
  refine Gd.go (fun _ w_k => XS.aloadN X0.here hx rfl (hb hby d3_0) rfl rfl w_k) ?_
  show Gd _ _ _ _ (s₁.setTop (mkF m 1 #[.val (.ref b)] [(.ref b)]))
  obtain ⟨T1, X1, e1, st1⟩ := initO X0 hx hZ hown (ow hw 17 rfl) (ow hw 9 rfl) (ow hw 10 rfl) e0 (g := (mkF m 1 #[.val (.ref b)] [(.ref b)])) rfl (by rw [hml]; rfl) rfl (hb hby d3_1) (by decide) (W := 0) (Nat.le_of_eq rfl) (by decide)
  refine Gd.go (fun _ w_k => st1 _ (XS.aloadN X1.here hx rfl (hb hby d3_4) rfl rfl (XS.bipush X1.here hx rfl (hb hby d3_5) w_k))) ?_
  show Gd _ _ _ _ (T1.setTop (mkF m 7 #[.val (.ref b)] [(.int (16 : Int32)), (.ref b)]))
  obtain ⟨T2, h2, k2, X2, e2, E2, A2, st2⟩ := newP X1 hx hZ (ow hw 18 rfl) e1 (g := (mkF m 7 #[.val (.ref b)] [(.int (16 : Int32)), (.ref b)])) rfl (hb hby d3_7) rfl (by decide) (cap := 16) (by decide) (by decide) (by decide) (by decide)
  obtain ⟨b2, g2⟩ : ∃ z, z = h0.size := ⟨_, rfl⟩
  rw [← g2] at A2 st2
  have ne_b_b2 : b ≠ b2 := fun q => Nat.lt_irrefl _ (Nat.lt_of_lt_of_le E0.lt (Nat.le_of_eq (q.trans g2).symm))
  have n0_b2 : n0 ≤ b2 := Nat.le_trans Z0 (Nat.le_of_eq g2.symm)
  have kn_b2 : h0.size ≤ b2 := Nat.le_trans K0.1 (Nat.le_of_eq g2.symm)
  have xF3 := E0.ext E2
  have xF4 := F1.ext E2
  have xF5 := F2.ext E2
  have xF6 := F3.ext E2
  have xZs7 := Nat.le_trans Z0 E2.1
  have xK8 := Keep.ext K0 E2
  have xF9 : ArF Z h2 b2 .long 16 (fun _ => (.long (0 : Int64))) := own_new (h := h0) A2 (by decide)
  refine Gd.go (fun _ w_k => st2 _ w_k) ?_
  show Gd _ _ _ _ (T2.setTop (mkF m 9 #[.val (.ref b)] [(.ref b2), (.ref b)]))
  obtain ⟨T10, h10, X10, e10, W10, st10⟩ := putF X2 hx hZ hown (host := "") (Or.inl (ow hw 19 rfl)) Via.refl e2 xF4 xF3 (Or.inl (ow hw 20 rfl)) (ow hw 12 rfl) (ty := (.array .long)) (by decide) rfl rfl (g := (mkF m 9 #[.val (.ref b)] [(.ref b2), (.ref b)])) rfl rfl (hb hby d3_9)
  refine Gd.go (fun _ w_k => st10 _ w_k) ?_
  have xF11 := xF3.wr W10
  have xF12 := xF4.same W10
  have xF13 := xF5.other W10 (Or.inr (slot_ne (Or.inl (ow hw 23 rfl)) (Or.inl (ow hw 20 rfl)) (by decide) (t := (.array .int)) (t' := (.array .long)) (by decide) (by decide)))
  have xF14 := xF6.other W10 (Or.inr (slot_ne (Or.inl (ow hw 72 rfl)) (Or.inl (ow hw 20 rfl)) (by decide) (t := .int) (t' := (.array .long)) (by decide) (by decide)))
  have xF15 := xF9.other W10 (Ne.symm ne_b_b2)
  have xN16 := Fr.snoc X10 N0 gb
  have xZs17 := Nat.le_trans xZs7 (Keep.of_wr W10).1
  have xK18 := Keep.wr xK8 W10 (Or.inl (List.mem_singleton.mpr rfl))
  show Gd _ _ _ _ (T10.setTop (mkF m 12 #[.val (.ref b)] []))
  refine Gd.go (fun _ w_k => XS.aloadN X10.here hx rfl (hb hby d3_12) rfl rfl (XS.bipush X10.here hx rfl (hb hby d3_13) w_k)) ?_
  show Gd _ _ _ _ (T10.setTop (mkF m 15 #[.val (.ref b)] [(.int (16 : Int32)), (.ref b)]))
  obtain ⟨T19, h19, k19, X19, e19, E19, A19, st19⟩ := newP X10 hx hZ (ow hw 21 rfl) e10 (g := (mkF m 15 #[.val (.ref b)] [(.int (16 : Int32)), (.ref b)])) rfl (hb hby d3_15) rfl (by decide) (cap := 16) (by decide) (by decide) (by decide) (by decide)
  obtain ⟨b19, g19⟩ : ∃ z, z = h10.size := ⟨_, rfl⟩
  rw [← g19] at A19 st19
  have ne_b_b19 : b ≠ b19 := fun q => Nat.lt_irrefl _ (Nat.lt_of_lt_of_le xF11.lt (Nat.le_of_eq (q.trans g19).symm))
  have ne_b2_b19 : b2 ≠ b19 := fun q => Nat.lt_irrefl _ (Nat.lt_of_lt_of_le xF15.lt (Nat.le_of_eq (q.trans g19).symm))
  have n0_b19 : n0 ≤ b19 := Nat.le_trans xZs17 (Nat.le_of_eq g19.symm)
  have kn_b19 : h0.size ≤ b19 := Nat.le_trans xK18.1 (Nat.le_of_eq g19.symm)
  have xF20 := xF11.ext E19
  have xF21 := xF12.ext E19
  have xF22 := xF13.ext E19
  have xF23 := xF14.ext E19
  have xF24 := xF15.ext E19
  have xZs25 := Nat.le_trans xZs17 E19.1
  have xK26 := Keep.ext xK18 E19
  have xF27 : ArF Z h19 b19 .int 16 (fun _ => (.int (0 : Int32))) := own_new (h := h10) A19 (by decide)
  refine Gd.go (fun _ w_k => st19 _ w_k) ?_
  show Gd _ _ _ _ (T19.setTop (mkF m 17 #[.val (.ref b)] [(.ref b19), (.ref b)]))
  have ltRI : b2 < b19 := Nat.lt_of_lt_of_le xF15.lt (Nat.le_of_eq g19.symm)
  obtain ⟨T28, h28, X28, e28, W28, st28⟩ := putF X19 hx hZ hown (host := "") (Or.inl (ow hw 22 rfl)) Via.refl e19 xF22 xF20 (Or.inl (ow hw 23 rfl)) (ow hw 12 rfl) (ty := (.array .int)) (by decide) rfl rfl (g := (mkF m 17 #[.val (.ref b)] [(.ref b19), (.ref b)])) rfl rfl (hb hby d3_17)
  refine Gd.go (fun _ w_k => st28 _ w_k) ?_
  have xF29 := xF20.wr W28
  have xF30 := xF21.other W28 (Or.inr (slot_ne (Or.inl (ow hw 20 rfl)) (Or.inl (ow hw 23 rfl)) (by decide) (t := (.array .long)) (t' := (.array .int)) (by decide) (by decide)))
  have xF31 := xF22.same W28
  have xF32 := xF23.other W28 (Or.inr (slot_ne (Or.inl (ow hw 72 rfl)) (Or.inl (ow hw 23 rfl)) (by decide) (t := .int) (t' := (.array .int)) (by decide) (by decide)))
  have xF33 := xF24.other W28 (Ne.symm ne_b_b2)
  have xF34 := xF27.other W28 (Ne.symm ne_b_b19)
  have xN35 := Fr.snoc X28 xN16 gb
  have xZs36 := Nat.le_trans xZs25 (Keep.of_wr W28).1
  have xK37 := Keep.wr xK26 W28 (Or.inl (List.mem_singleton.mpr rfl))
  show Gd _ _ _ _ (T28.setTop (mkF m 20 #[.val (.ref b)] []))
  refine own_retV X28 hx hret hlk (hb hby d3_20) ?_ (by decide) (by decide)
  rw [e28]
  exact ⟨rfl, b2, b19, kn_b2, ltRI, xF34.lt, xK37, xF29, xF30, xF31, xF32, xF33.congr (fun i _ => by simp [own_J, defaultValue]), xF34.congr (fun i _ => by simp [own_I, defaultValue]), xN35⟩
def own_U (Z : State) (h : Heap) (o R I : Addr) : Prop := Exa Z h o "com/example/nearfield/nearfield/job/RankedReads$Run" ∧ Fld Z h o "com/example/nearfield/nearfield/job/RankedReads$Run" "rank" "[J" (.ref R) ∧ Fld Z h o "com/example/nearfield/nearfield/job/RankedReads$Run" "ranking" "[I" (.ref I) ∧ Fld Z h o "com/example/nearfield/nearfield/job/RankedReads$Run" "count" "I" (.int (0 : Int32)) ∧ ArF Z h R .long 16 (own_J 0 0 0) ∧ ArF Z h I .int 16 (own_I 0 0 0)
theorem own_U.ext {Z : State} {h h' : Heap} {o R I : Addr} (H : own_U Z h o R I) (E : Ext h h') : own_U Z h' o R I := ⟨H.1.ext E, H.2.1.ext E, H.2.2.1.ext E, H.2.2.2.1.ext E, H.2.2.2.2.1.ext E, H.2.2.2.2.2.ext E⟩
theorem own_U.keep {Z : State} {h h' : Heap} {o R I : Addr} {ws : List Addr} (H : own_U Z h o R I) (K : Keep h h' ws) (q1 : o ∉ ws) (q2 : R ∉ ws) (q3 : I ∉ ws) : own_U Z h' o R I := ⟨H.1.keep K, H.2.1.keep K q1, H.2.2.1.keep K q1, H.2.2.2.1.keep K q1, H.2.2.2.2.1.keep K q2, H.2.2.2.2.2.keep K q3⟩
theorem own_pn24 : plainFor (⟨"com/example/nearfield/nearfield/job/RankedReads", "<init>", "(I)V"⟩ : MethodName) = true := by first | exact plainFor_of_name (by first | (simp [plainName, overriddenIn, x]; done) | decide +kernel) | decide +kernel
theorem ef_1 (m : MethodId) (q0 : Addr) (q1 : Int32) : entryFrame m #[(.ref q0), (.int q1)] 2 = mkF m 0 #[.val (.ref q0), .val (.int q1)] [] := by first | (simp [entryFrame, mkF, argsToLocals, Value.category, maxLocals]; done) | rfl
theorem d1_0 : decode prog_98_method_1_code 0 = .ok (.aload_n 0, 1) := by decide +kernel
theorem d1_1 : decode prog_98_method_1_code 1 = .ok (.invokespecial 1, 3) := by decide +kernel
theorem d1_4 : decode prog_98_method_1_code 4 = .ok (.aload_n 0, 1) := by decide +kernel
theorem d1_5 : decode prog_98_method_1_code 5 = .ok (.new 7, 3) := by decide +kernel
theorem d1_8 : decode prog_98_method_1_code 8 = .ok (.dup, 1) := by decide +kernel
theorem d1_9 : decode prog_98_method_1_code 9 = .ok (.invokespecial 9, 3) := by decide +kernel
theorem d1_12 : decode prog_98_method_1_code 12 = .ok (.putfield 10, 3) := by decide +kernel
theorem d1_15 : decode prog_98_method_1_code 15 = .ok (.aload_n 0, 1) := by decide +kernel
theorem d1_16 : decode prog_98_method_1_code 16 = .ok (.new 7, 3) := by decide +kernel
theorem d1_19 : decode prog_98_method_1_code 19 = .ok (.dup, 1) := by decide +kernel
theorem d1_20 : decode prog_98_method_1_code 20 = .ok (.invokespecial 9, 3) := by decide +kernel
theorem d1_23 : decode prog_98_method_1_code 23 = .ok (.putfield 16, 3) := by decide +kernel
theorem d1_26 : decode prog_98_method_1_code 26 = .ok (.aload_n 0, 1) := by decide +kernel
theorem d1_27 : decode prog_98_method_1_code 27 = .ok (.new 7, 3) := by decide +kernel
theorem d1_30 : decode prog_98_method_1_code 30 = .ok (.dup, 1) := by decide +kernel
theorem d1_31 : decode prog_98_method_1_code 31 = .ok (.invokespecial 9, 3) := by decide +kernel
theorem d1_34 : decode prog_98_method_1_code 34 = .ok (.putfield 19, 3) := by decide +kernel
theorem d1_37 : decode prog_98_method_1_code 37 = .ok (.aload_n 0, 1) := by decide +kernel
theorem d1_38 : decode prog_98_method_1_code 38 = .ok (.bipush 32, 2) := by decide +kernel
theorem d1_40 : decode prog_98_method_1_code 40 = .ok (.iconst 1, 1) := by decide +kernel
theorem d1_41 : decode prog_98_method_1_code 41 = .ok (.iload_n 1, 1) := by decide +kernel
theorem d1_42 : decode prog_98_method_1_code 42 = .ok (.iconst 1, 1) := by decide +kernel
theorem d1_43 : decode prog_98_method_1_code 43 = .ok (.isub, 1) := by decide +kernel
theorem own_pd9 : parseMethodDescriptor "(II)I" = some ⟨[.int, .int], some .int⟩ := by decide +kernel
theorem d1_44 : decode prog_98_method_1_code 44 = .ok (.invokestatic 22, 3) := by decide +kernel
theorem own_pd10 : parseMethodDescriptor "(I)I" = some ⟨[.int], some .int⟩ := by decide +kernel
theorem d1_47 : decode prog_98_method_1_code 47 = .ok (.invokestatic 28, 3) := by decide +kernel
theorem d1_50 : decode prog_98_method_1_code 50 = .ok (.isub, 1) := by decide +kernel
theorem d1_51 : decode prog_98_method_1_code 51 = .ok (.putfield 34, 3) := by decide +kernel
theorem d1_54 : decode prog_98_method_1_code 54 = .ok (.aload_n 0, 1) := by decide +kernel
theorem d1_55 : decode prog_98_method_1_code 55 = .ok (.bipush 63, 2) := by decide +kernel
theorem d1_57 : decode prog_98_method_1_code 57 = .ok (.aload_n 0, 1) := by decide +kernel
theorem d1_58 : decode prog_98_method_1_code 58 = .ok (.getfield 34, 3) := by decide +kernel
theorem d1_61 : decode prog_98_method_1_code 61 = .ok (.isub, 1) := by decide +kernel
theorem d1_62 : decode prog_98_method_1_code 62 = .ok (.iconst 2, 1) := by decide +kernel
theorem d1_63 : decode prog_98_method_1_code 63 = .ok (.idiv, 1) := by decide +kernel
theorem d1_64 : decode prog_98_method_1_code 64 = .ok (.putfield 40, 3) := by decide +kernel
theorem d1_67 : decode prog_98_method_1_code 67 = .ok (.aload_n 0, 1) := by decide +kernel
theorem d1_68 : decode prog_98_method_1_code 68 = .ok (.lconst 1, 1) := by decide +kernel
theorem d1_69 : decode prog_98_method_1_code 69 = .ok (.aload_n 0, 1) := by decide +kernel
theorem d1_70 : decode prog_98_method_1_code 70 = .ok (.getfield 34, 3) := by decide +kernel
theorem d1_73 : decode prog_98_method_1_code 73 = .ok (.lshl, 1) := by decide +kernel
theorem d1_74 : decode prog_98_method_1_code 74 = .ok (.lconst 1, 1) := by decide +kernel
theorem d1_75 : decode prog_98_method_1_code 75 = .ok (.lsub, 1) := by decide +kernel
theorem d1_76 : decode prog_98_method_1_code 76 = .ok (.putfield 43, 3) := by decide +kernel
theorem d1_79 : decode prog_98_method_1_code 79 = .ok (.aload_n 0, 1) := by decide +kernel
theorem d1_80 : decode prog_98_method_1_code 80 = .ok (.lconst 1, 1) := by decide +kernel
theorem d1_81 : decode prog_98_method_1_code 81 = .ok (.aload_n 0, 1) := by decide +kernel
theorem d1_82 : decode prog_98_method_1_code 82 = .ok (.getfield 40, 3) := by decide +kernel
theorem d1_85 : decode prog_98_method_1_code 85 = .ok (.lshl, 1) := by decide +kernel
theorem d1_86 : decode prog_98_method_1_code 86 = .ok (.lconst 1, 1) := by decide +kernel
theorem d1_87 : decode prog_98_method_1_code 87 = .ok (.lsub, 1) := by decide +kernel
theorem d1_88 : decode prog_98_method_1_code 88 = .ok (.putfield 47, 3) := by decide +kernel
theorem d1_91 : decode prog_98_method_1_code 91 = .ok (.aload_n 0, 1) := by decide +kernel
theorem d1_92 : decode prog_98_method_1_code 92 = .ok (.lconst 1, 1) := by decide +kernel
theorem d1_93 : decode prog_98_method_1_code 93 = .ok (.bipush 63, 2) := by decide +kernel
theorem d1_95 : decode prog_98_method_1_code 95 = .ok (.aload_n 0, 1) := by decide +kernel
theorem d1_96 : decode prog_98_method_1_code 96 = .ok (.getfield 34, 3) := by decide +kernel
theorem d1_99 : decode prog_98_method_1_code 99 = .ok (.isub, 1) := by decide +kernel
theorem d1_100 : decode prog_98_method_1_code 100 = .ok (.aload_n 0, 1) := by decide +kernel
theorem d1_101 : decode prog_98_method_1_code 101 = .ok (.getfield 40, 3) := by decide +kernel
theorem d1_104 : decode prog_98_method_1_code 104 = .ok (.isub, 1) := by decide +kernel
theorem d1_105 : decode prog_98_method_1_code 105 = .ok (.lshl, 1) := by decide +kernel
theorem d1_106 : decode prog_98_method_1_code 106 = .ok (.lconst 1, 1) := by decide +kernel
theorem d1_107 : decode prog_98_method_1_code 107 = .ok (.lsub, 1) := by decide +kernel
theorem d1_108 : decode prog_98_method_1_code 108 = .ok (.putfield 50, 3) := by decide +kernel
theorem d1_111 : decode prog_98_method_1_code 111 = .ok (.aload_n 0, 1) := by decide +kernel
theorem d1_112 : decode prog_98_method_1_code 112 = .ok (.iload_n 1, 1) := by decide +kernel
theorem d1_113 : decode prog_98_method_1_code 113 = .ok (.newarray .int, 2) := by decide +kernel
theorem d1_115 : decode prog_98_method_1_code 115 = .ok (.putfield 53, 3) := by decide +kernel
theorem d1_118 : decode prog_98_method_1_code 118 = .ok (.return_, 1) := by decide +kernel
set_option maxRecDepth 65536 in
set_option maxHeartbeats 40000000 in
theorem own_c1 (l : Launch) (Z : State) (a0 : Array Value) (hw : ∀ d ∈ tables_1, d.before a0 Z = true) (b : Addr) (h0 : Heap) (n0 : Nat) (Z0 : n0 ≤ h0.size) (gb : n0 ≤ b) (E0 : Exa Z h0 b "com/example/nearfield/nearfield/job/RankedReads") (F_run : Fld Z h0 b "com/example/nearfield/nearfield/job/RankedReads" "run" "Lcom/example/nearfield/nearfield/job/RankedReads$Run;" .null) (F_merged : Fld Z h0 b "com/example/nearfield/nearfield/job/RankedReads" "merged" "Lcom/example/nearfield/nearfield/job/RankedReads$Run;" .null) (F_fresh : Fld Z h0 b "com/example/nearfield/nearfield/job/RankedReads" "fresh" "Lcom/example/nearfield/nearfield/job/RankedReads$Run;" .null) (F_serverBits : Fld Z h0 b "com/example/nearfield/nearfield/job/RankedReads" "serverBits" "I" (.int (0 : Int32))) (F_freeBits : Fld Z h0 b "com/example/nearfield/nearfield/job/RankedReads" "freeBits" "I" (.int (0 : Int32))) (F_serverMask : Fld Z h0 b "com/example/nearfield/nearfield/job/RankedReads" "serverMask" "J" (.long (0 : Int64))) (F_mostFree : Fld Z h0 b "com/example/nearfield/nearfield/job/RankedReads" "mostFree" "J" (.long (0 : Int64))) (F_mostSpend : Fld Z h0 b "com/example/nearfield/nearfield/job/RankedReads" "mostSpend" "J" (.long (0 : Int64))) (F_runAt : Fld Z h0 b "com/example/nearfield/nearfield/job/RankedReads" "runAt" "I" (.int (0 : Int32))) (F_freshAt : Fld Z h0 b "com/example/nearfield/nearfield/job/RankedReads" "freshAt" "I" (.int (0 : Int32))) (F_freshKept : Fld Z h0 b "com/example/nearfield/nearfield/job/RankedReads" "freshKept" "I" (.int (0 : Int32))) (F_ranking : Fld Z h0 b "com/example/nearfield/nearfield/job/RankedReads" "ranking" "[I" .null) (F_rankedAnew : Fld Z h0 b "com/example/nearfield/nearfield/job/RankedReads" "rankedAnew" "Z" (.int (0 : Int32))) (F_at : Fld Z h0 b "com/example/nearfield/nearfield/job/RankedReads" "at" "I" (.int (0 : Int32))) (F_next : Fld Z h0 b "com/example/nearfield/nearfield/job/RankedReads" "next" "J" (.long (0 : Int64))) :
    Con l Z (⟨"com/example/nearfield/nearfield/job/RankedReads", "<init>", "(I)V"⟩ : MethodName) prog_98_method_1_code 2 none [] ({ frames := 2, cells := 10, slots := 108, locals := 26 } : Room) 10 108 #[(.ref b), (.int (3 : Int32))] h0 (fun r h L => r = none ∧ (∃ ad : Nat → Addr, ad 0 = b ∧ own_H Z h n0 ad (ad 1) (ad 2) (0 : Int32) (0 : Int32) (0 : Int32) (0 : Int32) (0 : Int32) (0 : Int64) (0 : Int32) (0 : Int32) (0 : Int32) (0 : Int64) (0 : Int64) (0 : Int64) (0 : Int64) (0 : Int64) (0 : Int64) (0 : Int64) (0 : Int64) (0 : Int64) (0 : Int32) (0 : Int32) (0 : Int32) (0 : Int32) (0 : Int32) (0 : Int32) (0 : Int32) (0 : Int32) (0 : Int32) (0 : Int32) (0 : Int32) (0 : Int32)) ∧ Fr n0 L) := by
  refine Con.of own_pn24 ?_
  intro pg ev s_ m bl mt cd s₁ hx hby hml hown hnm hret hlk hZ X0 e0
  rw [ef_1]
  show Gd _ _ _ _ (s₁.setTop (mkF m 0 #[.val (.ref b), .val (.int (3 : Int32))] []))
  have N0 := Fr.nil n0
  refine Gd.go (fun _ w_k => XS.aloadN X0.here hx rfl (hb hby d1_0) rfl rfl w_k) ?_
  show Gd _ _ _ _ (s₁.setTop (mkF m 1 #[.val (.ref b), .val (.int (3 : Int32))] [(.ref b)]))
  obtain ⟨T1, X1, e1, st1⟩ := initO X0 hx hZ hown (ow hw 8 rfl) (ow hw 9 rfl) (ow hw 10 rfl) e0 (g := (mkF m 1 #[.val (.ref b), .val (.int (3 : Int32))] [(.ref b)])) rfl (by rw [hml]; rfl) rfl (hb hby d1_1) (by decide) (W := 0) (Nat.le_of_eq rfl) (by decide)
  refine Gd.go (fun _ w_k => st1 _ (XS.aloadN X1.here hx rfl (hb hby d1_4) rfl rfl w_k)) ?_
  show Gd _ _ _ _ (T1.setTop (mkF m 5 #[.val (.ref b), .val (.int (3 : Int32))] [(.ref b)]))
  have xl1 : (b : Nat) < h0.size := E0.lt
  obtain ⟨T2, h2, X2, e2, E2, A2, D2, -, st2⟩ := newO X1 hx hZ hown (ow hw 11 rfl) (ow hw 12 rfl) (ow hw 13 rfl) e1 (g := (mkF m 5 #[.val (.ref b), .val (.int (3 : Int32))] [(.ref b)])) rfl (hb hby d1_5) (by decide) (by decide)
  obtain ⟨b2, g2⟩ : ∃ z, z = h0.size := ⟨_, rfl⟩
  rw [← g2] at A2 D2 st2
  have ne_b_b2 : b ≠ b2 := fun q => Nat.lt_irrefl _ (Nat.lt_of_lt_of_le E0.lt (Nat.le_of_eq (q.trans g2).symm))
  have n0_b2 : n0 ≤ b2 := Nat.le_trans Z0 (Nat.le_of_eq g2.symm)
  have xF3 := E0.ext E2
  have xF4 := F_run.ext E2
  have xF5 := F_merged.ext E2
  have xF6 := F_fresh.ext E2
  have xF7 := F_serverBits.ext E2
  have xF8 := F_freeBits.ext E2
  have xF9 := F_serverMask.ext E2
  have xF10 := F_mostFree.ext E2
  have xF11 := F_mostSpend.ext E2
  have xF12 := F_runAt.ext E2
  have xF13 := F_freshAt.ext E2
  have xF14 := F_freshKept.ext E2
  have xF15 := F_ranking.ext E2
  have xF16 := F_rankedAnew.ext E2
  have xF17 := F_at.ext E2
  have xF18 := F_next.ext E2
  have xZs19 := Nat.le_trans Z0 E2.1
  have xF20 : Fld Z h2 b2 "com/example/nearfield/nearfield/job/RankedReads$Run" "rank" "[J" .null := D2 (Or.inl (ow hw 20 rfl)) (ty := (.array .long)) (by decide)
  have xF21 : Fld Z h2 b2 "com/example/nearfield/nearfield/job/RankedReads$Run" "ranking" "[I" .null := D2 (Or.inl (ow hw 23 rfl)) (ty := (.array .int)) (by decide)
  have xF22 : Fld Z h2 b2 "com/example/nearfield/nearfield/job/RankedReads$Run" "count" "I" (.int (0 : Int32)) := D2 (Or.inl (ow hw 72 rfl)) (ty := .int) (by decide)
  refine Gd.go (fun _ w_k => st2 _ w_k) ?_
  show Gd _ _ _ _ (T2.setTop (mkF m 8 #[.val (.ref b), .val (.int (3 : Int32))] [(.ref b2), (.ref b)]))
  have lt1 : (b : Nat) < b2 := Nat.lt_of_lt_of_le xl1 (Nat.le_of_eq g2.symm)
  refine Gd.go (fun _ w_k => XS.dup X2.here hx rfl (hb hby d1_8) rfl rfl w_k) ?_
  show Gd _ _ _ _ (T2.setTop (mkF m 9 #[.val (.ref b), .val (.int (3 : Int32))] [(.ref b2), (.ref b2), (.ref b)]))
  have xr0 : (b2 : Nat) < h2.size := A2.lt
  obtain ⟨v23, T23, L23, X23, hQ23, st23⟩ := own_callIR X2 hx hZ (y := (⟨"com/example/nearfield/nearfield/job/RankedReads$Run", "<init>", "()V"⟩ : MethodName)) rfl hown (ow hw 14 rfl) (ow hw 15 rfl) (ow hw 13 rfl) (ow hw 16 rfl) (by decide) (b := b2) (W := 2) (own_c3 l Z a0 hw b2 h2 n0 xZs19 n0_b2 A2 xF20 xF21 xF22) rfl rfl e2 (by decide) (by decide) (g := (mkF m 9 #[.val (.ref b), .val (.int (3 : Int32))] [(.ref b2), (.ref b2), (.ref b)])) rfl (by rw [hml]; rfl) (argsL := []) (rest := [(.ref b2), (.ref b)]) (lenOf own_pd7 rfl) rfl (Nat.le_of_eq rfl) (hb hby d1_9) rfl (by decide) (by decide)
  obtain ⟨rfl, R0, I0, qR0, qI0, qh0, K_0, Eu0, G1_0, G2_0, G3_0, A1_0, A2_0, Nu0⟩ := hQ23
  refine Gd.go (fun _ w_k => st23 _ w_k) ?_
  show Gd _ _ _ _ (T23.setTop (mkF m 12 #[.val (.ref b), .val (.int (3 : Int32))] [(.ref b2), (.ref b)]))
  have lt2 : (b2 : Nat) < R0 := Nat.lt_of_lt_of_le xr0 qR0
  have lt3 : (R0 : Nat) < I0 := qI0
  have nR0 := Nat.le_trans xZs19 qR0
  have nI0 := Nat.le_of_lt (Nat.lt_of_le_of_lt nR0 qI0)
  have xF24 := xF3.keep K_0
  have xF25 := xF4.keep K_0 (ninS ne_b_b2 nin0)
  have xF26 := xF5.keep K_0 (ninS ne_b_b2 nin0)
  have xF27 := xF6.keep K_0 (ninS ne_b_b2 nin0)
  have xF28 := xF7.keep K_0 (ninS ne_b_b2 nin0)
  have xF29 := xF8.keep K_0 (ninS ne_b_b2 nin0)
  have xF30 := xF9.keep K_0 (ninS ne_b_b2 nin0)
  have xF31 := xF10.keep K_0 (ninS ne_b_b2 nin0)
  have xF32 := xF11.keep K_0 (ninS ne_b_b2 nin0)
  have xF33 := xF12.keep K_0 (ninS ne_b_b2 nin0)
  have xF34 := xF13.keep K_0 (ninS ne_b_b2 nin0)
  have xF35 := xF14.keep K_0 (ninS ne_b_b2 nin0)
  have xF36 := xF15.keep K_0 (ninS ne_b_b2 nin0)
  have xF37 := xF16.keep K_0 (ninS ne_b_b2 nin0)
  have xF38 := xF17.keep K_0 (ninS ne_b_b2 nin0)
  have xF39 := xF18.keep K_0 (ninS ne_b_b2 nin0)
  have xF40 := A2.keep K_0
  have xZs41 := Nat.le_trans xZs19 K_0.1
  have xN42 := Fr.app N0 Nu0
  have U0 : own_U Z T23.heap b2 R0 I0 := ⟨Eu0, G1_0, G2_0, G3_0, A1_0, A2_0⟩
  obtain ⟨T43, h43, X43, e43, W43, st43⟩ := putF X23 hx hZ hown (host := "") (Or.inl (ow hw 24 rfl)) Via.refl rfl xF25 xF24 (Or.inl (ow hw 25 rfl)) (ow hw 3 rfl) (ty := (.object "com/example/nearfield/nearfield/job/RankedReads$Run")) (by decide) rfl rfl (g := (mkF m 12 #[.val (.ref b), .val (.int (3 : Int32))] [(.ref b2), (.ref b)])) rfl rfl (hb hby d1_12)
  refine Gd.go (fun _ w_k => st43 _ w_k) ?_
  have xF44 := xF24.wr W43
  have xF45 := xF25.same W43
  have xF46 := xF26.other W43 (Or.inr (slot_ne (Or.inl (ow hw 27 rfl)) (Or.inl (ow hw 25 rfl)) (by decide) (t := (.object "com/example/nearfield/nearfield/job/RankedReads$Run")) (t' := (.object "com/example/nearfield/nearfield/job/RankedReads$Run")) (by decide) (by decide)))
  have xF47 := xF27.other W43 (Or.inr (slot_ne (Or.inr (ow hw 29 rfl)) (Or.inl (ow hw 25 rfl)) (by decide) (t := (.object "com/example/nearfield/nearfield/job/RankedReads$Run")) (t' := (.object "com/example/nearfield/nearfield/job/RankedReads$Run")) (by decide) (by decide)))
  have xF48 := xF28.other W43 (Or.inr (slot_ne (Or.inr (ow hw 40 rfl)) (Or.inl (ow hw 25 rfl)) (by decide) (t := .int) (t' := (.object "com/example/nearfield/nearfield/job/RankedReads$Run")) (by decide) (by decide)))
  have xF49 := xF29.other W43 (Or.inr (slot_ne (Or.inr (ow hw 42 rfl)) (Or.inl (ow hw 25 rfl)) (by decide) (t := .int) (t' := (.object "com/example/nearfield/nearfield/job/RankedReads$Run")) (by decide) (by decide)))
  have xF50 := xF30.other W43 (Or.inr (slot_ne (Or.inr (ow hw 44 rfl)) (Or.inl (ow hw 25 rfl)) (by decide) (t := .long) (t' := (.object "com/example/nearfield/nearfield/job/RankedReads$Run")) (by decide) (by decide)))
  have xF51 := xF31.other W43 (Or.inr (slot_ne (Or.inr (ow hw 46 rfl)) (Or.inl (ow hw 25 rfl)) (by decide) (t := .long) (t' := (.object "com/example/nearfield/nearfield/job/RankedReads$Run")) (by decide) (by decide)))
  have xF52 := xF32.other W43 (Or.inr (slot_ne (Or.inr (ow hw 48 rfl)) (Or.inl (ow hw 25 rfl)) (by decide) (t := .long) (t' := (.object "com/example/nearfield/nearfield/job/RankedReads$Run")) (by decide) (by decide)))
  have xF53 := xF33.other W43 (Or.inr (slot_ne (Or.inl (ow hw 117 rfl)) (Or.inl (ow hw 25 rfl)) (by decide) (t := .int) (t' := (.object "com/example/nearfield/nearfield/job/RankedReads$Run")) (by decide) (by decide)))
  have xF54 := xF34.other W43 (Or.inr (slot_ne (Or.inl (ow hw 82 rfl)) (Or.inl (ow hw 25 rfl)) (by decide) (t := .int) (t' := (.object "com/example/nearfield/nearfield/job/RankedReads$Run")) (by decide) (by decide)))
  have xF55 := xF35.other W43 (Or.inr (slot_ne (Or.inl (ow hw 80 rfl)) (Or.inl (ow hw 25 rfl)) (by decide) (t := .int) (t' := (.object "com/example/nearfield/nearfield/job/RankedReads$Run")) (by decide) (by decide)))
  have xF56 := xF36.other W43 (Or.inr (slot_ne (Or.inr (ow hw 50 rfl)) (Or.inl (ow hw 25 rfl)) (by decide) (t := (.array .int)) (t' := (.object "com/example/nearfield/nearfield/job/RankedReads$Run")) (by decide) (by decide)))
  have xF57 := xF37.other W43 (Or.inr (slot_ne (Or.inl (ow hw 123 rfl)) (Or.inl (ow hw 25 rfl)) (by decide) (t := .boolean) (t' := (.object "com/example/nearfield/nearfield/job/RankedReads$Run")) (by decide) (by decide)))
  have xF58 := xF38.other W43 (Or.inr (slot_ne (Or.inl (ow hw 125 rfl)) (Or.inl (ow hw 25 rfl)) (by decide) (t := .int) (t' := (.object "com/example/nearfield/nearfield/job/RankedReads$Run")) (by decide) (by decide)))
  have xF59 := xF39.other W43 (Or.inr (slot_ne (Or.inl (ow hw 132 rfl)) (Or.inl (ow hw 25 rfl)) (by decide) (t := .long) (t' := (.object "com/example/nearfield/nearfield/job/RankedReads$Run")) (by decide) (by decide)))
  have xF60 := U0.keep (Keep.of_wr W43) (ninS (Ne.symm ne_b_b2) nin0) (ninS (Ne.symm (Nat.ne_of_lt (Nat.lt_trans lt1 lt2))) nin0) (ninS (Ne.symm (Nat.ne_of_lt (Nat.lt_trans (Nat.lt_trans lt1 lt2) lt3))) nin0)
  have xN61 := Fr.snoc X43 xN42 gb
  have xZs62 := Nat.le_trans xZs41 (Keep.of_wr W43).1
  show Gd _ _ _ _ (T43.setTop (mkF m 15 #[.val (.ref b), .val (.int (3 : Int32))] []))
  refine Gd.go (fun _ w_k => XS.aloadN X43.here hx rfl (hb hby d1_15) rfl rfl w_k) ?_
  show Gd _ _ _ _ (T43.setTop (mkF m 16 #[.val (.ref b), .val (.int (3 : Int32))] [(.ref b)]))
  have xl4 : (I0 : Nat) < h43.size := xF60.2.2.2.2.2.lt
  obtain ⟨T63, h63, X63, e63, E63, A63, D63, -, st63⟩ := newO X43 hx hZ hown (ow hw 11 rfl) (ow hw 12 rfl) (ow hw 13 rfl) e43 (g := (mkF m 16 #[.val (.ref b), .val (.int (3 : Int32))] [(.ref b)])) rfl (hb hby d1_16) (by decide) (by decide)
  obtain ⟨b63, g63⟩ : ∃ z, z = h43.size := ⟨_, rfl⟩
  rw [← g63] at A63 D63 st63
  have ne_b_b63 : b ≠ b63 := fun q => Nat.lt_irrefl _ (Nat.lt_of_lt_of_le xF44.lt (Nat.le_of_eq (q.trans g63).symm))
  have n0_b63 : n0 ≤ b63 := Nat.le_trans xZs62 (Nat.le_of_eq g63.symm)
  have xF64 := xF44.ext E63
  have xF65 := xF45.ext E63
  have xF66 := xF46.ext E63
  have xF67 := xF47.ext E63
  have xF68 := xF48.ext E63
  have xF69 := xF49.ext E63
  have xF70 := xF50.ext E63
  have xF71 := xF51.ext E63
  have xF72 := xF52.ext E63
  have xF73 := xF53.ext E63
  have xF74 := xF54.ext E63
  have xF75 := xF55.ext E63
  have xF76 := xF56.ext E63
  have xF77 := xF57.ext E63
  have xF78 := xF58.ext E63
  have xF79 := xF59.ext E63
  have xF80 := xF60.ext E63
  have xZs81 := Nat.le_trans xZs62 E63.1
  have xF82 : Fld Z h63 b63 "com/example/nearfield/nearfield/job/RankedReads$Run" "rank" "[J" .null := D63 (Or.inl (ow hw 20 rfl)) (ty := (.array .long)) (by decide)
  have xF83 : Fld Z h63 b63 "com/example/nearfield/nearfield/job/RankedReads$Run" "ranking" "[I" .null := D63 (Or.inl (ow hw 23 rfl)) (ty := (.array .int)) (by decide)
  have xF84 : Fld Z h63 b63 "com/example/nearfield/nearfield/job/RankedReads$Run" "count" "I" (.int (0 : Int32)) := D63 (Or.inl (ow hw 72 rfl)) (ty := .int) (by decide)
  refine Gd.go (fun _ w_k => st63 _ w_k) ?_
  show Gd _ _ _ _ (T63.setTop (mkF m 19 #[.val (.ref b), .val (.int (3 : Int32))] [(.ref b63), (.ref b)]))
  have lt4 : (I0 : Nat) < b63 := Nat.lt_of_lt_of_le xl4 (Nat.le_of_eq g63.symm)
  refine Gd.go (fun _ w_k => XS.dup X63.here hx rfl (hb hby d1_19) rfl rfl w_k) ?_
  show Gd _ _ _ _ (T63.setTop (mkF m 20 #[.val (.ref b), .val (.int (3 : Int32))] [(.ref b63), (.ref b63), (.ref b)]))
  have xr1 : (b63 : Nat) < h63.size := A63.lt
  obtain ⟨v85, T85, L85, X85, hQ85, st85⟩ := own_callIR X63 hx hZ (y := (⟨"com/example/nearfield/nearfield/job/RankedReads$Run", "<init>", "()V"⟩ : MethodName)) rfl hown (ow hw 14 rfl) (ow hw 15 rfl) (ow hw 13 rfl) (ow hw 16 rfl) (by decide) (b := b63) (W := 2) (own_c3 l Z a0 hw b63 h63 n0 xZs81 n0_b63 A63 xF82 xF83 xF84) rfl rfl e63 (by decide) (by decide) (g := (mkF m 20 #[.val (.ref b), .val (.int (3 : Int32))] [(.ref b63), (.ref b63), (.ref b)])) rfl (by rw [hml]; rfl) (argsL := []) (rest := [(.ref b63), (.ref b)]) (lenOf own_pd7 rfl) rfl (Nat.le_of_eq rfl) (hb hby d1_20) rfl (by decide) (by decide)
  obtain ⟨rfl, R1, I1, qR1, qI1, qh1, K_1, Eu1, G1_1, G2_1, G3_1, A1_1, A2_1, Nu1⟩ := hQ85
  refine Gd.go (fun _ w_k => st85 _ w_k) ?_
  show Gd _ _ _ _ (T85.setTop (mkF m 23 #[.val (.ref b), .val (.int (3 : Int32))] [(.ref b63), (.ref b)]))
  have lt5 : (b63 : Nat) < R1 := Nat.lt_of_lt_of_le xr1 qR1
  have lt6 : (R1 : Nat) < I1 := qI1
  have nR1 := Nat.le_trans xZs81 qR1
  have nI1 := Nat.le_of_lt (Nat.lt_of_le_of_lt nR1 qI1)
  have xF86 := xF64.keep K_1
  have xF87 := xF65.keep K_1 (ninS ne_b_b63 nin0)
  have xF88 := xF66.keep K_1 (ninS ne_b_b63 nin0)
  have xF89 := xF67.keep K_1 (ninS ne_b_b63 nin0)
  have xF90 := xF68.keep K_1 (ninS ne_b_b63 nin0)
  have xF91 := xF69.keep K_1 (ninS ne_b_b63 nin0)
  have xF92 := xF70.keep K_1 (ninS ne_b_b63 nin0)
  have xF93 := xF71.keep K_1 (ninS ne_b_b63 nin0)
  have xF94 := xF72.keep K_1 (ninS ne_b_b63 nin0)
  have xF95 := xF73.keep K_1 (ninS ne_b_b63 nin0)
  have xF96 := xF74.keep K_1 (ninS ne_b_b63 nin0)
  have xF97 := xF75.keep K_1 (ninS ne_b_b63 nin0)
  have xF98 := xF76.keep K_1 (ninS ne_b_b63 nin0)
  have xF99 := xF77.keep K_1 (ninS ne_b_b63 nin0)
  have xF100 := xF78.keep K_1 (ninS ne_b_b63 nin0)
  have xF101 := xF79.keep K_1 (ninS ne_b_b63 nin0)
  have xF102 := xF80.keep K_1 (ninS (Nat.ne_of_lt (Nat.lt_trans (Nat.lt_trans lt2 lt3) lt4)) nin0) (ninS (Nat.ne_of_lt (Nat.lt_trans lt3 lt4)) nin0) (ninS (Nat.ne_of_lt lt4) nin0)
  have xF103 := A63.keep K_1
  have xZs104 := Nat.le_trans xZs81 K_1.1
  have xN105 := Fr.app xN61 Nu1
  have U1 : own_U Z T85.heap b63 R1 I1 := ⟨Eu1, G1_1, G2_1, G3_1, A1_1, A2_1⟩
  obtain ⟨T106, h106, X106, e106, W106, st106⟩ := putF X85 hx hZ hown (host := "") (Or.inl (ow hw 26 rfl)) Via.refl rfl xF88 xF86 (Or.inl (ow hw 27 rfl)) (ow hw 3 rfl) (ty := (.object "com/example/nearfield/nearfield/job/RankedReads$Run")) (by decide) rfl rfl (g := (mkF m 23 #[.val (.ref b), .val (.int (3 : Int32))] [(.ref b63), (.ref b)])) rfl rfl (hb hby d1_23)
  refine Gd.go (fun _ w_k => st106 _ w_k) ?_
  have xF107 := xF86.wr W106
  have xF108 := xF87.other W106 (Or.inr (slot_ne (Or.inl (ow hw 25 rfl)) (Or.inl (ow hw 27 rfl)) (by decide) (t := (.object "com/example/nearfield/nearfield/job/RankedReads$Run")) (t' := (.object "com/example/nearfield/nearfield/job/RankedReads$Run")) (by decide) (by decide)))
  have xF109 := xF88.same W106
  have xF110 := xF89.other W106 (Or.inr (slot_ne (Or.inr (ow hw 29 rfl)) (Or.inl (ow hw 27 rfl)) (by decide) (t := (.object "com/example/nearfield/nearfield/job/RankedReads$Run")) (t' := (.object "com/example/nearfield/nearfield/job/RankedReads$Run")) (by decide) (by decide)))
  have xF111 := xF90.other W106 (Or.inr (slot_ne (Or.inr (ow hw 40 rfl)) (Or.inl (ow hw 27 rfl)) (by decide) (t := .int) (t' := (.object "com/example/nearfield/nearfield/job/RankedReads$Run")) (by decide) (by decide)))
  have xF112 := xF91.other W106 (Or.inr (slot_ne (Or.inr (ow hw 42 rfl)) (Or.inl (ow hw 27 rfl)) (by decide) (t := .int) (t' := (.object "com/example/nearfield/nearfield/job/RankedReads$Run")) (by decide) (by decide)))
  have xF113 := xF92.other W106 (Or.inr (slot_ne (Or.inr (ow hw 44 rfl)) (Or.inl (ow hw 27 rfl)) (by decide) (t := .long) (t' := (.object "com/example/nearfield/nearfield/job/RankedReads$Run")) (by decide) (by decide)))
  have xF114 := xF93.other W106 (Or.inr (slot_ne (Or.inr (ow hw 46 rfl)) (Or.inl (ow hw 27 rfl)) (by decide) (t := .long) (t' := (.object "com/example/nearfield/nearfield/job/RankedReads$Run")) (by decide) (by decide)))
  have xF115 := xF94.other W106 (Or.inr (slot_ne (Or.inr (ow hw 48 rfl)) (Or.inl (ow hw 27 rfl)) (by decide) (t := .long) (t' := (.object "com/example/nearfield/nearfield/job/RankedReads$Run")) (by decide) (by decide)))
  have xF116 := xF95.other W106 (Or.inr (slot_ne (Or.inl (ow hw 117 rfl)) (Or.inl (ow hw 27 rfl)) (by decide) (t := .int) (t' := (.object "com/example/nearfield/nearfield/job/RankedReads$Run")) (by decide) (by decide)))
  have xF117 := xF96.other W106 (Or.inr (slot_ne (Or.inl (ow hw 82 rfl)) (Or.inl (ow hw 27 rfl)) (by decide) (t := .int) (t' := (.object "com/example/nearfield/nearfield/job/RankedReads$Run")) (by decide) (by decide)))
  have xF118 := xF97.other W106 (Or.inr (slot_ne (Or.inl (ow hw 80 rfl)) (Or.inl (ow hw 27 rfl)) (by decide) (t := .int) (t' := (.object "com/example/nearfield/nearfield/job/RankedReads$Run")) (by decide) (by decide)))
  have xF119 := xF98.other W106 (Or.inr (slot_ne (Or.inr (ow hw 50 rfl)) (Or.inl (ow hw 27 rfl)) (by decide) (t := (.array .int)) (t' := (.object "com/example/nearfield/nearfield/job/RankedReads$Run")) (by decide) (by decide)))
  have xF120 := xF99.other W106 (Or.inr (slot_ne (Or.inl (ow hw 123 rfl)) (Or.inl (ow hw 27 rfl)) (by decide) (t := .boolean) (t' := (.object "com/example/nearfield/nearfield/job/RankedReads$Run")) (by decide) (by decide)))
  have xF121 := xF100.other W106 (Or.inr (slot_ne (Or.inl (ow hw 125 rfl)) (Or.inl (ow hw 27 rfl)) (by decide) (t := .int) (t' := (.object "com/example/nearfield/nearfield/job/RankedReads$Run")) (by decide) (by decide)))
  have xF122 := xF101.other W106 (Or.inr (slot_ne (Or.inl (ow hw 132 rfl)) (Or.inl (ow hw 27 rfl)) (by decide) (t := .long) (t' := (.object "com/example/nearfield/nearfield/job/RankedReads$Run")) (by decide) (by decide)))
  have xF123 := xF102.keep (Keep.of_wr W106) (ninS (Ne.symm ne_b_b2) nin0) (ninS (Ne.symm (Nat.ne_of_lt (Nat.lt_trans lt1 lt2))) nin0) (ninS (Ne.symm (Nat.ne_of_lt (Nat.lt_trans (Nat.lt_trans lt1 lt2) lt3))) nin0)
  have xF124 := U1.keep (Keep.of_wr W106) (ninS (Ne.symm ne_b_b63) nin0) (ninS (Ne.symm (Nat.ne_of_lt (Nat.lt_trans (Nat.lt_trans (Nat.lt_trans (Nat.lt_trans lt1 lt2) lt3) lt4) lt5))) nin0) (ninS (Ne.symm (Nat.ne_of_lt (Nat.lt_trans (Nat.lt_trans (Nat.lt_trans (Nat.lt_trans (Nat.lt_trans lt1 lt2) lt3) lt4) lt5) lt6))) nin0)
  have xN125 := Fr.snoc X106 xN105 gb
  have xZs126 := Nat.le_trans xZs104 (Keep.of_wr W106).1
  show Gd _ _ _ _ (T106.setTop (mkF m 26 #[.val (.ref b), .val (.int (3 : Int32))] []))
  refine Gd.go (fun _ w_k => XS.aloadN X106.here hx rfl (hb hby d1_26) rfl rfl w_k) ?_
  show Gd _ _ _ _ (T106.setTop (mkF m 27 #[.val (.ref b), .val (.int (3 : Int32))] [(.ref b)]))
  have xl7 : (I1 : Nat) < h106.size := xF124.2.2.2.2.2.lt
  obtain ⟨T127, h127, X127, e127, E127, A127, D127, -, st127⟩ := newO X106 hx hZ hown (ow hw 11 rfl) (ow hw 12 rfl) (ow hw 13 rfl) e106 (g := (mkF m 27 #[.val (.ref b), .val (.int (3 : Int32))] [(.ref b)])) rfl (hb hby d1_27) (by decide) (by decide)
  obtain ⟨b127, g127⟩ : ∃ z, z = h106.size := ⟨_, rfl⟩
  rw [← g127] at A127 D127 st127
  have ne_b_b127 : b ≠ b127 := fun q => Nat.lt_irrefl _ (Nat.lt_of_lt_of_le xF107.lt (Nat.le_of_eq (q.trans g127).symm))
  have n0_b127 : n0 ≤ b127 := Nat.le_trans xZs126 (Nat.le_of_eq g127.symm)
  have xF128 := xF107.ext E127
  have xF129 := xF108.ext E127
  have xF130 := xF109.ext E127
  have xF131 := xF110.ext E127
  have xF132 := xF111.ext E127
  have xF133 := xF112.ext E127
  have xF134 := xF113.ext E127
  have xF135 := xF114.ext E127
  have xF136 := xF115.ext E127
  have xF137 := xF116.ext E127
  have xF138 := xF117.ext E127
  have xF139 := xF118.ext E127
  have xF140 := xF119.ext E127
  have xF141 := xF120.ext E127
  have xF142 := xF121.ext E127
  have xF143 := xF122.ext E127
  have xF144 := xF123.ext E127
  have xF145 := xF124.ext E127
  have xZs146 := Nat.le_trans xZs126 E127.1
  have xF147 : Fld Z h127 b127 "com/example/nearfield/nearfield/job/RankedReads$Run" "rank" "[J" .null := D127 (Or.inl (ow hw 20 rfl)) (ty := (.array .long)) (by decide)
  have xF148 : Fld Z h127 b127 "com/example/nearfield/nearfield/job/RankedReads$Run" "ranking" "[I" .null := D127 (Or.inl (ow hw 23 rfl)) (ty := (.array .int)) (by decide)
  have xF149 : Fld Z h127 b127 "com/example/nearfield/nearfield/job/RankedReads$Run" "count" "I" (.int (0 : Int32)) := D127 (Or.inl (ow hw 72 rfl)) (ty := .int) (by decide)
  refine Gd.go (fun _ w_k => st127 _ w_k) ?_
  show Gd _ _ _ _ (T127.setTop (mkF m 30 #[.val (.ref b), .val (.int (3 : Int32))] [(.ref b127), (.ref b)]))
  have lt7 : (I1 : Nat) < b127 := Nat.lt_of_lt_of_le xl7 (Nat.le_of_eq g127.symm)
  refine Gd.go (fun _ w_k => XS.dup X127.here hx rfl (hb hby d1_30) rfl rfl w_k) ?_
  show Gd _ _ _ _ (T127.setTop (mkF m 31 #[.val (.ref b), .val (.int (3 : Int32))] [(.ref b127), (.ref b127), (.ref b)]))
  have xr2 : (b127 : Nat) < h127.size := A127.lt
  obtain ⟨v150, T150, L150, X150, hQ150, st150⟩ := own_callIR X127 hx hZ (y := (⟨"com/example/nearfield/nearfield/job/RankedReads$Run", "<init>", "()V"⟩ : MethodName)) rfl hown (ow hw 14 rfl) (ow hw 15 rfl) (ow hw 13 rfl) (ow hw 16 rfl) (by decide) (b := b127) (W := 2) (own_c3 l Z a0 hw b127 h127 n0 xZs146 n0_b127 A127 xF147 xF148 xF149) rfl rfl e127 (by decide) (by decide) (g := (mkF m 31 #[.val (.ref b), .val (.int (3 : Int32))] [(.ref b127), (.ref b127), (.ref b)])) rfl (by rw [hml]; rfl) (argsL := []) (rest := [(.ref b127), (.ref b)]) (lenOf own_pd7 rfl) rfl (Nat.le_of_eq rfl) (hb hby d1_31) rfl (by decide) (by decide)
  obtain ⟨rfl, R2, I2, qR2, qI2, qh2, K_2, Eu2, G1_2, G2_2, G3_2, A1_2, A2_2, Nu2⟩ := hQ150
  refine Gd.go (fun _ w_k => st150 _ w_k) ?_
  show Gd _ _ _ _ (T150.setTop (mkF m 34 #[.val (.ref b), .val (.int (3 : Int32))] [(.ref b127), (.ref b)]))
  have lt8 : (b127 : Nat) < R2 := Nat.lt_of_lt_of_le xr2 qR2
  have lt9 : (R2 : Nat) < I2 := qI2
  have nR2 := Nat.le_trans xZs146 qR2
  have nI2 := Nat.le_of_lt (Nat.lt_of_le_of_lt nR2 qI2)
  have xF151 := xF128.keep K_2
  have xF152 := xF129.keep K_2 (ninS ne_b_b127 nin0)
  have xF153 := xF130.keep K_2 (ninS ne_b_b127 nin0)
  have xF154 := xF131.keep K_2 (ninS ne_b_b127 nin0)
  have xF155 := xF132.keep K_2 (ninS ne_b_b127 nin0)
  have xF156 := xF133.keep K_2 (ninS ne_b_b127 nin0)
  have xF157 := xF134.keep K_2 (ninS ne_b_b127 nin0)
  have xF158 := xF135.keep K_2 (ninS ne_b_b127 nin0)
  have xF159 := xF136.keep K_2 (ninS ne_b_b127 nin0)
  have xF160 := xF137.keep K_2 (ninS ne_b_b127 nin0)
  have xF161 := xF138.keep K_2 (ninS ne_b_b127 nin0)
  have xF162 := xF139.keep K_2 (ninS ne_b_b127 nin0)
  have xF163 := xF140.keep K_2 (ninS ne_b_b127 nin0)
  have xF164 := xF141.keep K_2 (ninS ne_b_b127 nin0)
  have xF165 := xF142.keep K_2 (ninS ne_b_b127 nin0)
  have xF166 := xF143.keep K_2 (ninS ne_b_b127 nin0)
  have xF167 := xF144.keep K_2 (ninS (Nat.ne_of_lt (Nat.lt_trans (Nat.lt_trans (Nat.lt_trans (Nat.lt_trans (Nat.lt_trans lt2 lt3) lt4) lt5) lt6) lt7)) nin0) (ninS (Nat.ne_of_lt (Nat.lt_trans (Nat.lt_trans (Nat.lt_trans (Nat.lt_trans lt3 lt4) lt5) lt6) lt7)) nin0) (ninS (Nat.ne_of_lt (Nat.lt_trans (Nat.lt_trans (Nat.lt_trans lt4 lt5) lt6) lt7)) nin0)
  have xF168 := xF145.keep K_2 (ninS (Nat.ne_of_lt (Nat.lt_trans (Nat.lt_trans lt5 lt6) lt7)) nin0) (ninS (Nat.ne_of_lt (Nat.lt_trans lt6 lt7)) nin0) (ninS (Nat.ne_of_lt lt7) nin0)
  have xF169 := A127.keep K_2
  have xZs170 := Nat.le_trans xZs146 K_2.1
  have xN171 := Fr.app xN125 Nu2
  have U2 : own_U Z T150.heap b127 R2 I2 := ⟨Eu2, G1_2, G2_2, G3_2, A1_2, A2_2⟩
  obtain ⟨T172, h172, X172, e172, W172, st172⟩ := putF X150 hx hZ hown (host := "") (Or.inl (ow hw 28 rfl)) Via.refl rfl xF154 xF151 (Or.inr ⟨(ow hw 29 rfl), rfl, hnm⟩) (ow hw 3 rfl) (ty := (.object "com/example/nearfield/nearfield/job/RankedReads$Run")) (by decide) rfl rfl (g := (mkF m 34 #[.val (.ref b), .val (.int (3 : Int32))] [(.ref b127), (.ref b)])) rfl rfl (hb hby d1_34)
  refine Gd.go (fun _ w_k => st172 _ w_k) ?_
  have xF173 := xF151.wr W172
  have xF174 := xF152.other W172 (Or.inr (slot_ne (Or.inl (ow hw 25 rfl)) (Or.inr (ow hw 29 rfl)) (by decide) (t := (.object "com/example/nearfield/nearfield/job/RankedReads$Run")) (t' := (.object "com/example/nearfield/nearfield/job/RankedReads$Run")) (by decide) (by decide)))
  have xF175 := xF153.other W172 (Or.inr (slot_ne (Or.inl (ow hw 27 rfl)) (Or.inr (ow hw 29 rfl)) (by decide) (t := (.object "com/example/nearfield/nearfield/job/RankedReads$Run")) (t' := (.object "com/example/nearfield/nearfield/job/RankedReads$Run")) (by decide) (by decide)))
  have xF176 := xF154.same W172
  have xF177 := xF155.other W172 (Or.inr (slot_ne (Or.inr (ow hw 40 rfl)) (Or.inr (ow hw 29 rfl)) (by decide) (t := .int) (t' := (.object "com/example/nearfield/nearfield/job/RankedReads$Run")) (by decide) (by decide)))
  have xF178 := xF156.other W172 (Or.inr (slot_ne (Or.inr (ow hw 42 rfl)) (Or.inr (ow hw 29 rfl)) (by decide) (t := .int) (t' := (.object "com/example/nearfield/nearfield/job/RankedReads$Run")) (by decide) (by decide)))
  have xF179 := xF157.other W172 (Or.inr (slot_ne (Or.inr (ow hw 44 rfl)) (Or.inr (ow hw 29 rfl)) (by decide) (t := .long) (t' := (.object "com/example/nearfield/nearfield/job/RankedReads$Run")) (by decide) (by decide)))
  have xF180 := xF158.other W172 (Or.inr (slot_ne (Or.inr (ow hw 46 rfl)) (Or.inr (ow hw 29 rfl)) (by decide) (t := .long) (t' := (.object "com/example/nearfield/nearfield/job/RankedReads$Run")) (by decide) (by decide)))
  have xF181 := xF159.other W172 (Or.inr (slot_ne (Or.inr (ow hw 48 rfl)) (Or.inr (ow hw 29 rfl)) (by decide) (t := .long) (t' := (.object "com/example/nearfield/nearfield/job/RankedReads$Run")) (by decide) (by decide)))
  have xF182 := xF160.other W172 (Or.inr (slot_ne (Or.inl (ow hw 117 rfl)) (Or.inr (ow hw 29 rfl)) (by decide) (t := .int) (t' := (.object "com/example/nearfield/nearfield/job/RankedReads$Run")) (by decide) (by decide)))
  have xF183 := xF161.other W172 (Or.inr (slot_ne (Or.inl (ow hw 82 rfl)) (Or.inr (ow hw 29 rfl)) (by decide) (t := .int) (t' := (.object "com/example/nearfield/nearfield/job/RankedReads$Run")) (by decide) (by decide)))
  have xF184 := xF162.other W172 (Or.inr (slot_ne (Or.inl (ow hw 80 rfl)) (Or.inr (ow hw 29 rfl)) (by decide) (t := .int) (t' := (.object "com/example/nearfield/nearfield/job/RankedReads$Run")) (by decide) (by decide)))
  have xF185 := xF163.other W172 (Or.inr (slot_ne (Or.inr (ow hw 50 rfl)) (Or.inr (ow hw 29 rfl)) (by decide) (t := (.array .int)) (t' := (.object "com/example/nearfield/nearfield/job/RankedReads$Run")) (by decide) (by decide)))
  have xF186 := xF164.other W172 (Or.inr (slot_ne (Or.inl (ow hw 123 rfl)) (Or.inr (ow hw 29 rfl)) (by decide) (t := .boolean) (t' := (.object "com/example/nearfield/nearfield/job/RankedReads$Run")) (by decide) (by decide)))
  have xF187 := xF165.other W172 (Or.inr (slot_ne (Or.inl (ow hw 125 rfl)) (Or.inr (ow hw 29 rfl)) (by decide) (t := .int) (t' := (.object "com/example/nearfield/nearfield/job/RankedReads$Run")) (by decide) (by decide)))
  have xF188 := xF166.other W172 (Or.inr (slot_ne (Or.inl (ow hw 132 rfl)) (Or.inr (ow hw 29 rfl)) (by decide) (t := .long) (t' := (.object "com/example/nearfield/nearfield/job/RankedReads$Run")) (by decide) (by decide)))
  have xF189 := xF167.keep (Keep.of_wr W172) (ninS (Ne.symm ne_b_b2) nin0) (ninS (Ne.symm (Nat.ne_of_lt (Nat.lt_trans lt1 lt2))) nin0) (ninS (Ne.symm (Nat.ne_of_lt (Nat.lt_trans (Nat.lt_trans lt1 lt2) lt3))) nin0)
  have xF190 := xF168.keep (Keep.of_wr W172) (ninS (Ne.symm ne_b_b63) nin0) (ninS (Ne.symm (Nat.ne_of_lt (Nat.lt_trans (Nat.lt_trans (Nat.lt_trans (Nat.lt_trans lt1 lt2) lt3) lt4) lt5))) nin0) (ninS (Ne.symm (Nat.ne_of_lt (Nat.lt_trans (Nat.lt_trans (Nat.lt_trans (Nat.lt_trans (Nat.lt_trans lt1 lt2) lt3) lt4) lt5) lt6))) nin0)
  have xF191 := U2.keep (Keep.of_wr W172) (ninS (Ne.symm ne_b_b127) nin0) (ninS (Ne.symm (Nat.ne_of_lt (Nat.lt_trans (Nat.lt_trans (Nat.lt_trans (Nat.lt_trans (Nat.lt_trans (Nat.lt_trans (Nat.lt_trans lt1 lt2) lt3) lt4) lt5) lt6) lt7) lt8))) nin0) (ninS (Ne.symm (Nat.ne_of_lt (Nat.lt_trans (Nat.lt_trans (Nat.lt_trans (Nat.lt_trans (Nat.lt_trans (Nat.lt_trans (Nat.lt_trans (Nat.lt_trans lt1 lt2) lt3) lt4) lt5) lt6) lt7) lt8) lt9))) nin0)
  have xN192 := Fr.snoc X172 xN171 gb
  have xZs193 := Nat.le_trans xZs170 (Keep.of_wr W172).1
  show Gd _ _ _ _ (T172.setTop (mkF m 37 #[.val (.ref b), .val (.int (3 : Int32))] []))
  refine Gd.go (fun _ w_k => XS.aloadN X172.here hx rfl (hb hby d1_37) rfl rfl (XS.bipush X172.here hx rfl (hb hby d1_38) (XS.iconst X172.here hx rfl (hb hby d1_40) (XS.iloadN X172.here hx rfl (hb hby d1_41) rfl (XS.iconst X172.here hx rfl (hb hby d1_42) (XS.isub X172.here hx rfl (hb hby d1_43) rfl w_k)))))) ?_
  show Gd _ _ _ _ (T172.setTop (mkF m 44 #[.val (.ref b), .val (.int (3 : Int32))] [(.int ((3 : Int32) - (1 : Int32))), (.int (1 : Int32)), (.int (32 : Int32)), (.ref b)]))
  rw [show ((3 : Int32) - (1 : Int32)) = (2 : Int32) from by decide]
  show Gd _ _ _ _ (T172.setTop (mkF m 44 #[.val (.ref b), .val (.int (3 : Int32))] [(.int (2 : Int32)), (.int (1 : Int32)), (.int (32 : Int32)), (.ref b)]))
  obtain ⟨T194, X194, e194, st194⟩ := own_callSP X172 hx hZ (y := (⟨"java/lang/Math", "max", "(II)I"⟩ : MethodName)) hown (ow hw 30 rfl) (ow hw 31 rfl) (ow hw 32 rfl) (ow hw 33 rfl) (by decide) (W := 2) (own_c4 l Z a0 hw h172) rfl rfl e172 (by decide) (by decide) (g := (mkF m 44 #[.val (.ref b), .val (.int (3 : Int32))] [(.int (2 : Int32)), (.int (1 : Int32)), (.int (32 : Int32)), (.ref b)])) rfl (by rw [hml]; rfl) (argsL := [(.int (1 : Int32)), (.int (2 : Int32))]) (rest := [(.int (32 : Int32)), (.ref b)]) (lenOf own_pd9 rfl) rfl (Nat.le_of_eq rfl) (hb hby d1_44) rfl
  refine Gd.go (fun _ w_k => st194 _ w_k) ?_
  show Gd _ _ _ _ (T194.setTop (mkF m 47 #[.val (.ref b), .val (.int (3 : Int32))] [(.int (2 : Int32)), (.int (32 : Int32)), (.ref b)]))
  obtain ⟨T195, X195, e195, st195⟩ := own_callSP X194 hx hZ (y := (⟨"java/lang/Integer", "numberOfLeadingZeros", "(I)I"⟩ : MethodName)) hown (ow hw 34 rfl) (ow hw 35 rfl) (ow hw 36 rfl) (ow hw 37 rfl) (by decide) (W := 2) (own_c5 l Z a0 hw h172) rfl rfl e194 (by decide) (by decide) (g := (mkF m 47 #[.val (.ref b), .val (.int (3 : Int32))] [(.int (2 : Int32)), (.int (32 : Int32)), (.ref b)])) rfl (by rw [hml]; rfl) (argsL := [(.int (2 : Int32))]) (rest := [(.int (32 : Int32)), (.ref b)]) (lenOf own_pd10 rfl) rfl (Nat.le_of_eq rfl) (hb hby d1_47) rfl
  refine Gd.go (fun _ w_k => st195 _ (XS.isub X195.here hx rfl (hb hby d1_50) rfl w_k)) ?_
  show Gd _ _ _ _ (T195.setTop (mkF m 51 #[.val (.ref b), .val (.int (3 : Int32))] [(.int ((32 : Int32) - (30 : Int32))), (.ref b)]))
  rw [show ((32 : Int32) - (30 : Int32)) = (2 : Int32) from by decide]
  show Gd _ _ _ _ (T195.setTop (mkF m 51 #[.val (.ref b), .val (.int (3 : Int32))] [(.int (2 : Int32)), (.ref b)]))
  obtain ⟨T196, h196, X196, e196, W196, st196⟩ := putF X195 hx hZ hown (host := "") (Or.inl (ow hw 39 rfl)) Via.refl e195 xF177 xF173 (Or.inr ⟨(ow hw 40 rfl), rfl, hnm⟩) (ow hw 3 rfl) (ty := .int) (by decide) rfl rfl (g := (mkF m 51 #[.val (.ref b), .val (.int (3 : Int32))] [(.int (2 : Int32)), (.ref b)])) rfl rfl (hb hby d1_51)
  refine Gd.go (fun _ w_k => st196 _ w_k) ?_
  have xF197 := xF173.wr W196
  have xF198 := xF174.other W196 (Or.inr (slot_ne (Or.inl (ow hw 25 rfl)) (Or.inr (ow hw 40 rfl)) (by decide) (t := (.object "com/example/nearfield/nearfield/job/RankedReads$Run")) (t' := .int) (by decide) (by decide)))
  have xF199 := xF175.other W196 (Or.inr (slot_ne (Or.inl (ow hw 27 rfl)) (Or.inr (ow hw 40 rfl)) (by decide) (t := (.object "com/example/nearfield/nearfield/job/RankedReads$Run")) (t' := .int) (by decide) (by decide)))
  have xF200 := xF176.other W196 (Or.inr (slot_ne (Or.inr (ow hw 29 rfl)) (Or.inr (ow hw 40 rfl)) (by decide) (t := (.object "com/example/nearfield/nearfield/job/RankedReads$Run")) (t' := .int) (by decide) (by decide)))
  have xF201 := xF177.same W196
  have xF202 := xF178.other W196 (Or.inr (slot_ne (Or.inr (ow hw 42 rfl)) (Or.inr (ow hw 40 rfl)) (by decide) (t := .int) (t' := .int) (by decide) (by decide)))
  have xF203 := xF179.other W196 (Or.inr (slot_ne (Or.inr (ow hw 44 rfl)) (Or.inr (ow hw 40 rfl)) (by decide) (t := .long) (t' := .int) (by decide) (by decide)))
  have xF204 := xF180.other W196 (Or.inr (slot_ne (Or.inr (ow hw 46 rfl)) (Or.inr (ow hw 40 rfl)) (by decide) (t := .long) (t' := .int) (by decide) (by decide)))
  have xF205 := xF181.other W196 (Or.inr (slot_ne (Or.inr (ow hw 48 rfl)) (Or.inr (ow hw 40 rfl)) (by decide) (t := .long) (t' := .int) (by decide) (by decide)))
  have xF206 := xF182.other W196 (Or.inr (slot_ne (Or.inl (ow hw 117 rfl)) (Or.inr (ow hw 40 rfl)) (by decide) (t := .int) (t' := .int) (by decide) (by decide)))
  have xF207 := xF183.other W196 (Or.inr (slot_ne (Or.inl (ow hw 82 rfl)) (Or.inr (ow hw 40 rfl)) (by decide) (t := .int) (t' := .int) (by decide) (by decide)))
  have xF208 := xF184.other W196 (Or.inr (slot_ne (Or.inl (ow hw 80 rfl)) (Or.inr (ow hw 40 rfl)) (by decide) (t := .int) (t' := .int) (by decide) (by decide)))
  have xF209 := xF185.other W196 (Or.inr (slot_ne (Or.inr (ow hw 50 rfl)) (Or.inr (ow hw 40 rfl)) (by decide) (t := (.array .int)) (t' := .int) (by decide) (by decide)))
  have xF210 := xF186.other W196 (Or.inr (slot_ne (Or.inl (ow hw 123 rfl)) (Or.inr (ow hw 40 rfl)) (by decide) (t := .boolean) (t' := .int) (by decide) (by decide)))
  have xF211 := xF187.other W196 (Or.inr (slot_ne (Or.inl (ow hw 125 rfl)) (Or.inr (ow hw 40 rfl)) (by decide) (t := .int) (t' := .int) (by decide) (by decide)))
  have xF212 := xF188.other W196 (Or.inr (slot_ne (Or.inl (ow hw 132 rfl)) (Or.inr (ow hw 40 rfl)) (by decide) (t := .long) (t' := .int) (by decide) (by decide)))
  have xF213 := xF189.keep (Keep.of_wr W196) (ninS (Ne.symm ne_b_b2) nin0) (ninS (Ne.symm (Nat.ne_of_lt (Nat.lt_trans lt1 lt2))) nin0) (ninS (Ne.symm (Nat.ne_of_lt (Nat.lt_trans (Nat.lt_trans lt1 lt2) lt3))) nin0)
  have xF214 := xF190.keep (Keep.of_wr W196) (ninS (Ne.symm ne_b_b63) nin0) (ninS (Ne.symm (Nat.ne_of_lt (Nat.lt_trans (Nat.lt_trans (Nat.lt_trans (Nat.lt_trans lt1 lt2) lt3) lt4) lt5))) nin0) (ninS (Ne.symm (Nat.ne_of_lt (Nat.lt_trans (Nat.lt_trans (Nat.lt_trans (Nat.lt_trans (Nat.lt_trans lt1 lt2) lt3) lt4) lt5) lt6))) nin0)
  have xF215 := xF191.keep (Keep.of_wr W196) (ninS (Ne.symm ne_b_b127) nin0) (ninS (Ne.symm (Nat.ne_of_lt (Nat.lt_trans (Nat.lt_trans (Nat.lt_trans (Nat.lt_trans (Nat.lt_trans (Nat.lt_trans (Nat.lt_trans lt1 lt2) lt3) lt4) lt5) lt6) lt7) lt8))) nin0) (ninS (Ne.symm (Nat.ne_of_lt (Nat.lt_trans (Nat.lt_trans (Nat.lt_trans (Nat.lt_trans (Nat.lt_trans (Nat.lt_trans (Nat.lt_trans (Nat.lt_trans lt1 lt2) lt3) lt4) lt5) lt6) lt7) lt8) lt9))) nin0)
  have xN216 := Fr.snoc X196 xN192 gb
  have xZs217 := Nat.le_trans xZs193 (Keep.of_wr W196).1
  show Gd _ _ _ _ (T196.setTop (mkF m 54 #[.val (.ref b), .val (.int (3 : Int32))] []))
  refine Gd.go (fun _ w_k => XS.aloadN X196.here hx rfl (hb hby d1_54) rfl rfl (XS.bipush X196.here hx rfl (hb hby d1_55) (XS.aloadN X196.here hx rfl (hb hby d1_57) rfl rfl w_k))) ?_
  show Gd _ _ _ _ (T196.setTop (mkF m 58 #[.val (.ref b), .val (.int (3 : Int32))] [(.ref b), (.int (63 : Int32)), (.ref b)]))
  obtain ⟨T218, X218, e218, st218⟩ := getF X196 hx hZ hown (host := "") (Or.inl (ow hw 39 rfl)) Via.refl e196 xF201 (g := (mkF m 58 #[.val (.ref b), .val (.int (3 : Int32))] [(.ref b), (.int (63 : Int32)), (.ref b)])) rfl rfl (hb hby d1_58)
  refine Gd.go (fun _ w_k => st218 _ (XS.isub X218.here hx rfl (hb hby d1_61) rfl w_k)) ?_
  show Gd _ _ _ _ (T218.setTop (mkF m 62 #[.val (.ref b), .val (.int (3 : Int32))] [(.int ((63 : Int32) - (2 : Int32))), (.ref b)]))
  rw [show ((63 : Int32) - (2 : Int32)) = (61 : Int32) from by decide]
  show Gd _ _ _ _ (T218.setTop (mkF m 62 #[.val (.ref b), .val (.int (3 : Int32))] [(.int (61 : Int32)), (.ref b)]))
  refine Gd.go (fun _ w_k => XS.iconst X218.here hx rfl (hb hby d1_62) (XS.idiv X218.here hx rfl (hb hby d1_63) rfl (by decide) w_k)) ?_
  show Gd _ _ _ _ (T218.setTop (mkF m 64 #[.val (.ref b), .val (.int (3 : Int32))] [(.int ((61 : Int32) / (2 : Int32))), (.ref b)]))
  rw [show ((61 : Int32) / (2 : Int32)) = (30 : Int32) from by decide]
  show Gd _ _ _ _ (T218.setTop (mkF m 64 #[.val (.ref b), .val (.int (3 : Int32))] [(.int (30 : Int32)), (.ref b)]))
  obtain ⟨T219, h219, X219, e219, W219, st219⟩ := putF X218 hx hZ hown (host := "") (Or.inl (ow hw 41 rfl)) Via.refl e218 xF202 xF197 (Or.inr ⟨(ow hw 42 rfl), rfl, hnm⟩) (ow hw 3 rfl) (ty := .int) (by decide) rfl rfl (g := (mkF m 64 #[.val (.ref b), .val (.int (3 : Int32))] [(.int (30 : Int32)), (.ref b)])) rfl rfl (hb hby d1_64)
  refine Gd.go (fun _ w_k => st219 _ w_k) ?_
  have xF220 := xF197.wr W219
  have xF221 := xF198.other W219 (Or.inr (slot_ne (Or.inl (ow hw 25 rfl)) (Or.inr (ow hw 42 rfl)) (by decide) (t := (.object "com/example/nearfield/nearfield/job/RankedReads$Run")) (t' := .int) (by decide) (by decide)))
  have xF222 := xF199.other W219 (Or.inr (slot_ne (Or.inl (ow hw 27 rfl)) (Or.inr (ow hw 42 rfl)) (by decide) (t := (.object "com/example/nearfield/nearfield/job/RankedReads$Run")) (t' := .int) (by decide) (by decide)))
  have xF223 := xF200.other W219 (Or.inr (slot_ne (Or.inr (ow hw 29 rfl)) (Or.inr (ow hw 42 rfl)) (by decide) (t := (.object "com/example/nearfield/nearfield/job/RankedReads$Run")) (t' := .int) (by decide) (by decide)))
  have xF224 := xF201.other W219 (Or.inr (slot_ne (Or.inr (ow hw 40 rfl)) (Or.inr (ow hw 42 rfl)) (by decide) (t := .int) (t' := .int) (by decide) (by decide)))
  have xF225 := xF202.same W219
  have xF226 := xF203.other W219 (Or.inr (slot_ne (Or.inr (ow hw 44 rfl)) (Or.inr (ow hw 42 rfl)) (by decide) (t := .long) (t' := .int) (by decide) (by decide)))
  have xF227 := xF204.other W219 (Or.inr (slot_ne (Or.inr (ow hw 46 rfl)) (Or.inr (ow hw 42 rfl)) (by decide) (t := .long) (t' := .int) (by decide) (by decide)))
  have xF228 := xF205.other W219 (Or.inr (slot_ne (Or.inr (ow hw 48 rfl)) (Or.inr (ow hw 42 rfl)) (by decide) (t := .long) (t' := .int) (by decide) (by decide)))
  have xF229 := xF206.other W219 (Or.inr (slot_ne (Or.inl (ow hw 117 rfl)) (Or.inr (ow hw 42 rfl)) (by decide) (t := .int) (t' := .int) (by decide) (by decide)))
  have xF230 := xF207.other W219 (Or.inr (slot_ne (Or.inl (ow hw 82 rfl)) (Or.inr (ow hw 42 rfl)) (by decide) (t := .int) (t' := .int) (by decide) (by decide)))
  have xF231 := xF208.other W219 (Or.inr (slot_ne (Or.inl (ow hw 80 rfl)) (Or.inr (ow hw 42 rfl)) (by decide) (t := .int) (t' := .int) (by decide) (by decide)))
  have xF232 := xF209.other W219 (Or.inr (slot_ne (Or.inr (ow hw 50 rfl)) (Or.inr (ow hw 42 rfl)) (by decide) (t := (.array .int)) (t' := .int) (by decide) (by decide)))
  have xF233 := xF210.other W219 (Or.inr (slot_ne (Or.inl (ow hw 123 rfl)) (Or.inr (ow hw 42 rfl)) (by decide) (t := .boolean) (t' := .int) (by decide) (by decide)))
  have xF234 := xF211.other W219 (Or.inr (slot_ne (Or.inl (ow hw 125 rfl)) (Or.inr (ow hw 42 rfl)) (by decide) (t := .int) (t' := .int) (by decide) (by decide)))
  have xF235 := xF212.other W219 (Or.inr (slot_ne (Or.inl (ow hw 132 rfl)) (Or.inr (ow hw 42 rfl)) (by decide) (t := .long) (t' := .int) (by decide) (by decide)))
  have xF236 := xF213.keep (Keep.of_wr W219) (ninS (Ne.symm ne_b_b2) nin0) (ninS (Ne.symm (Nat.ne_of_lt (Nat.lt_trans lt1 lt2))) nin0) (ninS (Ne.symm (Nat.ne_of_lt (Nat.lt_trans (Nat.lt_trans lt1 lt2) lt3))) nin0)
  have xF237 := xF214.keep (Keep.of_wr W219) (ninS (Ne.symm ne_b_b63) nin0) (ninS (Ne.symm (Nat.ne_of_lt (Nat.lt_trans (Nat.lt_trans (Nat.lt_trans (Nat.lt_trans lt1 lt2) lt3) lt4) lt5))) nin0) (ninS (Ne.symm (Nat.ne_of_lt (Nat.lt_trans (Nat.lt_trans (Nat.lt_trans (Nat.lt_trans (Nat.lt_trans lt1 lt2) lt3) lt4) lt5) lt6))) nin0)
  have xF238 := xF215.keep (Keep.of_wr W219) (ninS (Ne.symm ne_b_b127) nin0) (ninS (Ne.symm (Nat.ne_of_lt (Nat.lt_trans (Nat.lt_trans (Nat.lt_trans (Nat.lt_trans (Nat.lt_trans (Nat.lt_trans (Nat.lt_trans lt1 lt2) lt3) lt4) lt5) lt6) lt7) lt8))) nin0) (ninS (Ne.symm (Nat.ne_of_lt (Nat.lt_trans (Nat.lt_trans (Nat.lt_trans (Nat.lt_trans (Nat.lt_trans (Nat.lt_trans (Nat.lt_trans (Nat.lt_trans lt1 lt2) lt3) lt4) lt5) lt6) lt7) lt8) lt9))) nin0)
  have xN239 := Fr.snoc X219 xN216 gb
  have xZs240 := Nat.le_trans xZs217 (Keep.of_wr W219).1
  show Gd _ _ _ _ (T219.setTop (mkF m 67 #[.val (.ref b), .val (.int (3 : Int32))] []))
  refine Gd.go (fun _ w_k => XS.aloadN X219.here hx rfl (hb hby d1_67) rfl rfl (XS.lconst X219.here hx rfl (hb hby d1_68) (XS.aloadN X219.here hx rfl (hb hby d1_69) rfl rfl w_k))) ?_
  show Gd _ _ _ _ (T219.setTop (mkF m 70 #[.val (.ref b), .val (.int (3 : Int32))] [(.ref b), (.long (1 : Int64)), (.ref b)]))
  obtain ⟨T241, X241, e241, st241⟩ := getF X219 hx hZ hown (host := "") (Or.inl (ow hw 39 rfl)) Via.refl e219 xF224 (g := (mkF m 70 #[.val (.ref b), .val (.int (3 : Int32))] [(.ref b), (.long (1 : Int64)), (.ref b)])) rfl rfl (hb hby d1_70)
  refine Gd.go (fun _ w_k => st241 _ (XS.lshl X241.here hx rfl (hb hby d1_73) rfl w_k)) ?_
  show Gd _ _ _ _ (T241.setTop (mkF m 74 #[.val (.ref b), .val (.int (3 : Int32))] [(.long ((1 : Int64) <<< ((2 : Int32) &&& 0x3f).toInt64)), (.ref b)]))
  rw [show ((1 : Int64) <<< ((2 : Int32) &&& 0x3f).toInt64) = (4 : Int64) from by decide]
  show Gd _ _ _ _ (T241.setTop (mkF m 74 #[.val (.ref b), .val (.int (3 : Int32))] [(.long (4 : Int64)), (.ref b)]))
  refine Gd.go (fun _ w_k => XS.lconst X241.here hx rfl (hb hby d1_74) (XS.lsub X241.here hx rfl (hb hby d1_75) rfl w_k)) ?_
  show Gd _ _ _ _ (T241.setTop (mkF m 76 #[.val (.ref b), .val (.int (3 : Int32))] [(.long ((4 : Int64) - (1 : Int64))), (.ref b)]))
  rw [show ((4 : Int64) - (1 : Int64)) = (3 : Int64) from by decide]
  show Gd _ _ _ _ (T241.setTop (mkF m 76 #[.val (.ref b), .val (.int (3 : Int32))] [(.long (3 : Int64)), (.ref b)]))
  obtain ⟨T242, h242, X242, e242, W242, st242⟩ := putF X241 hx hZ hown (host := "") (Or.inl (ow hw 43 rfl)) Via.refl e241 xF226 xF220 (Or.inr ⟨(ow hw 44 rfl), rfl, hnm⟩) (ow hw 3 rfl) (ty := .long) (by decide) rfl rfl (g := (mkF m 76 #[.val (.ref b), .val (.int (3 : Int32))] [(.long (3 : Int64)), (.ref b)])) rfl rfl (hb hby d1_76)
  refine Gd.go (fun _ w_k => st242 _ w_k) ?_
  have xF243 := xF220.wr W242
  have xF244 := xF221.other W242 (Or.inr (slot_ne (Or.inl (ow hw 25 rfl)) (Or.inr (ow hw 44 rfl)) (by decide) (t := (.object "com/example/nearfield/nearfield/job/RankedReads$Run")) (t' := .long) (by decide) (by decide)))
  have xF245 := xF222.other W242 (Or.inr (slot_ne (Or.inl (ow hw 27 rfl)) (Or.inr (ow hw 44 rfl)) (by decide) (t := (.object "com/example/nearfield/nearfield/job/RankedReads$Run")) (t' := .long) (by decide) (by decide)))
  have xF246 := xF223.other W242 (Or.inr (slot_ne (Or.inr (ow hw 29 rfl)) (Or.inr (ow hw 44 rfl)) (by decide) (t := (.object "com/example/nearfield/nearfield/job/RankedReads$Run")) (t' := .long) (by decide) (by decide)))
  have xF247 := xF224.other W242 (Or.inr (slot_ne (Or.inr (ow hw 40 rfl)) (Or.inr (ow hw 44 rfl)) (by decide) (t := .int) (t' := .long) (by decide) (by decide)))
  have xF248 := xF225.other W242 (Or.inr (slot_ne (Or.inr (ow hw 42 rfl)) (Or.inr (ow hw 44 rfl)) (by decide) (t := .int) (t' := .long) (by decide) (by decide)))
  have xF249 := xF226.same W242
  have xF250 := xF227.other W242 (Or.inr (slot_ne (Or.inr (ow hw 46 rfl)) (Or.inr (ow hw 44 rfl)) (by decide) (t := .long) (t' := .long) (by decide) (by decide)))
  have xF251 := xF228.other W242 (Or.inr (slot_ne (Or.inr (ow hw 48 rfl)) (Or.inr (ow hw 44 rfl)) (by decide) (t := .long) (t' := .long) (by decide) (by decide)))
  have xF252 := xF229.other W242 (Or.inr (slot_ne (Or.inl (ow hw 117 rfl)) (Or.inr (ow hw 44 rfl)) (by decide) (t := .int) (t' := .long) (by decide) (by decide)))
  have xF253 := xF230.other W242 (Or.inr (slot_ne (Or.inl (ow hw 82 rfl)) (Or.inr (ow hw 44 rfl)) (by decide) (t := .int) (t' := .long) (by decide) (by decide)))
  have xF254 := xF231.other W242 (Or.inr (slot_ne (Or.inl (ow hw 80 rfl)) (Or.inr (ow hw 44 rfl)) (by decide) (t := .int) (t' := .long) (by decide) (by decide)))
  have xF255 := xF232.other W242 (Or.inr (slot_ne (Or.inr (ow hw 50 rfl)) (Or.inr (ow hw 44 rfl)) (by decide) (t := (.array .int)) (t' := .long) (by decide) (by decide)))
  have xF256 := xF233.other W242 (Or.inr (slot_ne (Or.inl (ow hw 123 rfl)) (Or.inr (ow hw 44 rfl)) (by decide) (t := .boolean) (t' := .long) (by decide) (by decide)))
  have xF257 := xF234.other W242 (Or.inr (slot_ne (Or.inl (ow hw 125 rfl)) (Or.inr (ow hw 44 rfl)) (by decide) (t := .int) (t' := .long) (by decide) (by decide)))
  have xF258 := xF235.other W242 (Or.inr (slot_ne (Or.inl (ow hw 132 rfl)) (Or.inr (ow hw 44 rfl)) (by decide) (t := .long) (t' := .long) (by decide) (by decide)))
  have xF259 := xF236.keep (Keep.of_wr W242) (ninS (Ne.symm ne_b_b2) nin0) (ninS (Ne.symm (Nat.ne_of_lt (Nat.lt_trans lt1 lt2))) nin0) (ninS (Ne.symm (Nat.ne_of_lt (Nat.lt_trans (Nat.lt_trans lt1 lt2) lt3))) nin0)
  have xF260 := xF237.keep (Keep.of_wr W242) (ninS (Ne.symm ne_b_b63) nin0) (ninS (Ne.symm (Nat.ne_of_lt (Nat.lt_trans (Nat.lt_trans (Nat.lt_trans (Nat.lt_trans lt1 lt2) lt3) lt4) lt5))) nin0) (ninS (Ne.symm (Nat.ne_of_lt (Nat.lt_trans (Nat.lt_trans (Nat.lt_trans (Nat.lt_trans (Nat.lt_trans lt1 lt2) lt3) lt4) lt5) lt6))) nin0)
  have xF261 := xF238.keep (Keep.of_wr W242) (ninS (Ne.symm ne_b_b127) nin0) (ninS (Ne.symm (Nat.ne_of_lt (Nat.lt_trans (Nat.lt_trans (Nat.lt_trans (Nat.lt_trans (Nat.lt_trans (Nat.lt_trans (Nat.lt_trans lt1 lt2) lt3) lt4) lt5) lt6) lt7) lt8))) nin0) (ninS (Ne.symm (Nat.ne_of_lt (Nat.lt_trans (Nat.lt_trans (Nat.lt_trans (Nat.lt_trans (Nat.lt_trans (Nat.lt_trans (Nat.lt_trans (Nat.lt_trans lt1 lt2) lt3) lt4) lt5) lt6) lt7) lt8) lt9))) nin0)
  have xN262 := Fr.snoc X242 xN239 gb
  have xZs263 := Nat.le_trans xZs240 (Keep.of_wr W242).1
  show Gd _ _ _ _ (T242.setTop (mkF m 79 #[.val (.ref b), .val (.int (3 : Int32))] []))
  refine Gd.go (fun _ w_k => XS.aloadN X242.here hx rfl (hb hby d1_79) rfl rfl (XS.lconst X242.here hx rfl (hb hby d1_80) (XS.aloadN X242.here hx rfl (hb hby d1_81) rfl rfl w_k))) ?_
  show Gd _ _ _ _ (T242.setTop (mkF m 82 #[.val (.ref b), .val (.int (3 : Int32))] [(.ref b), (.long (1 : Int64)), (.ref b)]))
  obtain ⟨T264, X264, e264, st264⟩ := getF X242 hx hZ hown (host := "") (Or.inl (ow hw 41 rfl)) Via.refl e242 xF248 (g := (mkF m 82 #[.val (.ref b), .val (.int (3 : Int32))] [(.ref b), (.long (1 : Int64)), (.ref b)])) rfl rfl (hb hby d1_82)
  refine Gd.go (fun _ w_k => st264 _ (XS.lshl X264.here hx rfl (hb hby d1_85) rfl w_k)) ?_
  show Gd _ _ _ _ (T264.setTop (mkF m 86 #[.val (.ref b), .val (.int (3 : Int32))] [(.long ((1 : Int64) <<< ((30 : Int32) &&& 0x3f).toInt64)), (.ref b)]))
  rw [show ((1 : Int64) <<< ((30 : Int32) &&& 0x3f).toInt64) = (1073741824 : Int64) from by decide]
  show Gd _ _ _ _ (T264.setTop (mkF m 86 #[.val (.ref b), .val (.int (3 : Int32))] [(.long (1073741824 : Int64)), (.ref b)]))
  refine Gd.go (fun _ w_k => XS.lconst X264.here hx rfl (hb hby d1_86) (XS.lsub X264.here hx rfl (hb hby d1_87) rfl w_k)) ?_
  show Gd _ _ _ _ (T264.setTop (mkF m 88 #[.val (.ref b), .val (.int (3 : Int32))] [(.long ((1073741824 : Int64) - (1 : Int64))), (.ref b)]))
  rw [show ((1073741824 : Int64) - (1 : Int64)) = (1073741823 : Int64) from by decide]
  show Gd _ _ _ _ (T264.setTop (mkF m 88 #[.val (.ref b), .val (.int (3 : Int32))] [(.long (1073741823 : Int64)), (.ref b)]))
  obtain ⟨T265, h265, X265, e265, W265, st265⟩ := putF X264 hx hZ hown (host := "") (Or.inl (ow hw 45 rfl)) Via.refl e264 xF250 xF243 (Or.inr ⟨(ow hw 46 rfl), rfl, hnm⟩) (ow hw 3 rfl) (ty := .long) (by decide) rfl rfl (g := (mkF m 88 #[.val (.ref b), .val (.int (3 : Int32))] [(.long (1073741823 : Int64)), (.ref b)])) rfl rfl (hb hby d1_88)
  refine Gd.go (fun _ w_k => st265 _ w_k) ?_
  have xF266 := xF243.wr W265
  have xF267 := xF244.other W265 (Or.inr (slot_ne (Or.inl (ow hw 25 rfl)) (Or.inr (ow hw 46 rfl)) (by decide) (t := (.object "com/example/nearfield/nearfield/job/RankedReads$Run")) (t' := .long) (by decide) (by decide)))
  have xF268 := xF245.other W265 (Or.inr (slot_ne (Or.inl (ow hw 27 rfl)) (Or.inr (ow hw 46 rfl)) (by decide) (t := (.object "com/example/nearfield/nearfield/job/RankedReads$Run")) (t' := .long) (by decide) (by decide)))
  have xF269 := xF246.other W265 (Or.inr (slot_ne (Or.inr (ow hw 29 rfl)) (Or.inr (ow hw 46 rfl)) (by decide) (t := (.object "com/example/nearfield/nearfield/job/RankedReads$Run")) (t' := .long) (by decide) (by decide)))
  have xF270 := xF247.other W265 (Or.inr (slot_ne (Or.inr (ow hw 40 rfl)) (Or.inr (ow hw 46 rfl)) (by decide) (t := .int) (t' := .long) (by decide) (by decide)))
  have xF271 := xF248.other W265 (Or.inr (slot_ne (Or.inr (ow hw 42 rfl)) (Or.inr (ow hw 46 rfl)) (by decide) (t := .int) (t' := .long) (by decide) (by decide)))
  have xF272 := xF249.other W265 (Or.inr (slot_ne (Or.inr (ow hw 44 rfl)) (Or.inr (ow hw 46 rfl)) (by decide) (t := .long) (t' := .long) (by decide) (by decide)))
  have xF273 := xF250.same W265
  have xF274 := xF251.other W265 (Or.inr (slot_ne (Or.inr (ow hw 48 rfl)) (Or.inr (ow hw 46 rfl)) (by decide) (t := .long) (t' := .long) (by decide) (by decide)))
  have xF275 := xF252.other W265 (Or.inr (slot_ne (Or.inl (ow hw 117 rfl)) (Or.inr (ow hw 46 rfl)) (by decide) (t := .int) (t' := .long) (by decide) (by decide)))
  have xF276 := xF253.other W265 (Or.inr (slot_ne (Or.inl (ow hw 82 rfl)) (Or.inr (ow hw 46 rfl)) (by decide) (t := .int) (t' := .long) (by decide) (by decide)))
  have xF277 := xF254.other W265 (Or.inr (slot_ne (Or.inl (ow hw 80 rfl)) (Or.inr (ow hw 46 rfl)) (by decide) (t := .int) (t' := .long) (by decide) (by decide)))
  have xF278 := xF255.other W265 (Or.inr (slot_ne (Or.inr (ow hw 50 rfl)) (Or.inr (ow hw 46 rfl)) (by decide) (t := (.array .int)) (t' := .long) (by decide) (by decide)))
  have xF279 := xF256.other W265 (Or.inr (slot_ne (Or.inl (ow hw 123 rfl)) (Or.inr (ow hw 46 rfl)) (by decide) (t := .boolean) (t' := .long) (by decide) (by decide)))
  have xF280 := xF257.other W265 (Or.inr (slot_ne (Or.inl (ow hw 125 rfl)) (Or.inr (ow hw 46 rfl)) (by decide) (t := .int) (t' := .long) (by decide) (by decide)))
  have xF281 := xF258.other W265 (Or.inr (slot_ne (Or.inl (ow hw 132 rfl)) (Or.inr (ow hw 46 rfl)) (by decide) (t := .long) (t' := .long) (by decide) (by decide)))
  have xF282 := xF259.keep (Keep.of_wr W265) (ninS (Ne.symm ne_b_b2) nin0) (ninS (Ne.symm (Nat.ne_of_lt (Nat.lt_trans lt1 lt2))) nin0) (ninS (Ne.symm (Nat.ne_of_lt (Nat.lt_trans (Nat.lt_trans lt1 lt2) lt3))) nin0)
  have xF283 := xF260.keep (Keep.of_wr W265) (ninS (Ne.symm ne_b_b63) nin0) (ninS (Ne.symm (Nat.ne_of_lt (Nat.lt_trans (Nat.lt_trans (Nat.lt_trans (Nat.lt_trans lt1 lt2) lt3) lt4) lt5))) nin0) (ninS (Ne.symm (Nat.ne_of_lt (Nat.lt_trans (Nat.lt_trans (Nat.lt_trans (Nat.lt_trans (Nat.lt_trans lt1 lt2) lt3) lt4) lt5) lt6))) nin0)
  have xF284 := xF261.keep (Keep.of_wr W265) (ninS (Ne.symm ne_b_b127) nin0) (ninS (Ne.symm (Nat.ne_of_lt (Nat.lt_trans (Nat.lt_trans (Nat.lt_trans (Nat.lt_trans (Nat.lt_trans (Nat.lt_trans (Nat.lt_trans lt1 lt2) lt3) lt4) lt5) lt6) lt7) lt8))) nin0) (ninS (Ne.symm (Nat.ne_of_lt (Nat.lt_trans (Nat.lt_trans (Nat.lt_trans (Nat.lt_trans (Nat.lt_trans (Nat.lt_trans (Nat.lt_trans (Nat.lt_trans lt1 lt2) lt3) lt4) lt5) lt6) lt7) lt8) lt9))) nin0)
  have xN285 := Fr.snoc X265 xN262 gb
  have xZs286 := Nat.le_trans xZs263 (Keep.of_wr W265).1
  show Gd _ _ _ _ (T265.setTop (mkF m 91 #[.val (.ref b), .val (.int (3 : Int32))] []))
  refine Gd.go (fun _ w_k => XS.aloadN X265.here hx rfl (hb hby d1_91) rfl rfl (XS.lconst X265.here hx rfl (hb hby d1_92) (XS.bipush X265.here hx rfl (hb hby d1_93) (XS.aloadN X265.here hx rfl (hb hby d1_95) rfl rfl w_k)))) ?_
  show Gd _ _ _ _ (T265.setTop (mkF m 96 #[.val (.ref b), .val (.int (3 : Int32))] [(.ref b), (.int (63 : Int32)), (.long (1 : Int64)), (.ref b)]))
  obtain ⟨T287, X287, e287, st287⟩ := getF X265 hx hZ hown (host := "") (Or.inl (ow hw 39 rfl)) Via.refl e265 xF270 (g := (mkF m 96 #[.val (.ref b), .val (.int (3 : Int32))] [(.ref b), (.int (63 : Int32)), (.long (1 : Int64)), (.ref b)])) rfl rfl (hb hby d1_96)
  refine Gd.go (fun _ w_k => st287 _ (XS.isub X287.here hx rfl (hb hby d1_99) rfl w_k)) ?_
  show Gd _ _ _ _ (T287.setTop (mkF m 100 #[.val (.ref b), .val (.int (3 : Int32))] [(.int ((63 : Int32) - (2 : Int32))), (.long (1 : Int64)), (.ref b)]))
  rw [show ((63 : Int32) - (2 : Int32)) = (61 : Int32) from by decide]
  show Gd _ _ _ _ (T287.setTop (mkF m 100 #[.val (.ref b), .val (.int (3 : Int32))] [(.int (61 : Int32)), (.long (1 : Int64)), (.ref b)]))
  refine Gd.go (fun _ w_k => XS.aloadN X287.here hx rfl (hb hby d1_100) rfl rfl w_k) ?_
  show Gd _ _ _ _ (T287.setTop (mkF m 101 #[.val (.ref b), .val (.int (3 : Int32))] [(.ref b), (.int (61 : Int32)), (.long (1 : Int64)), (.ref b)]))
  obtain ⟨T288, X288, e288, st288⟩ := getF X287 hx hZ hown (host := "") (Or.inl (ow hw 41 rfl)) Via.refl e287 xF271 (g := (mkF m 101 #[.val (.ref b), .val (.int (3 : Int32))] [(.ref b), (.int (61 : Int32)), (.long (1 : Int64)), (.ref b)])) rfl rfl (hb hby d1_101)
  refine Gd.go (fun _ w_k => st288 _ (XS.isub X288.here hx rfl (hb hby d1_104) rfl w_k)) ?_
  show Gd _ _ _ _ (T288.setTop (mkF m 105 #[.val (.ref b), .val (.int (3 : Int32))] [(.int ((61 : Int32) - (30 : Int32))), (.long (1 : Int64)), (.ref b)]))
  rw [show ((61 : Int32) - (30 : Int32)) = (31 : Int32) from by decide]
  show Gd _ _ _ _ (T288.setTop (mkF m 105 #[.val (.ref b), .val (.int (3 : Int32))] [(.int (31 : Int32)), (.long (1 : Int64)), (.ref b)]))
  refine Gd.go (fun _ w_k => XS.lshl X288.here hx rfl (hb hby d1_105) rfl w_k) ?_
  show Gd _ _ _ _ (T288.setTop (mkF m 106 #[.val (.ref b), .val (.int (3 : Int32))] [(.long ((1 : Int64) <<< ((31 : Int32) &&& 0x3f).toInt64)), (.ref b)]))
  rw [show ((1 : Int64) <<< ((31 : Int32) &&& 0x3f).toInt64) = (2147483648 : Int64) from by decide]
  show Gd _ _ _ _ (T288.setTop (mkF m 106 #[.val (.ref b), .val (.int (3 : Int32))] [(.long (2147483648 : Int64)), (.ref b)]))
  refine Gd.go (fun _ w_k => XS.lconst X288.here hx rfl (hb hby d1_106) (XS.lsub X288.here hx rfl (hb hby d1_107) rfl w_k)) ?_
  show Gd _ _ _ _ (T288.setTop (mkF m 108 #[.val (.ref b), .val (.int (3 : Int32))] [(.long ((2147483648 : Int64) - (1 : Int64))), (.ref b)]))
  rw [show ((2147483648 : Int64) - (1 : Int64)) = (2147483647 : Int64) from by decide]
  show Gd _ _ _ _ (T288.setTop (mkF m 108 #[.val (.ref b), .val (.int (3 : Int32))] [(.long (2147483647 : Int64)), (.ref b)]))
  obtain ⟨T289, h289, X289, e289, W289, st289⟩ := putF X288 hx hZ hown (host := "") (Or.inl (ow hw 47 rfl)) Via.refl e288 xF274 xF266 (Or.inr ⟨(ow hw 48 rfl), rfl, hnm⟩) (ow hw 3 rfl) (ty := .long) (by decide) rfl rfl (g := (mkF m 108 #[.val (.ref b), .val (.int (3 : Int32))] [(.long (2147483647 : Int64)), (.ref b)])) rfl rfl (hb hby d1_108)
  refine Gd.go (fun _ w_k => st289 _ w_k) ?_
  have xF290 := xF266.wr W289
  have xF291 := xF267.other W289 (Or.inr (slot_ne (Or.inl (ow hw 25 rfl)) (Or.inr (ow hw 48 rfl)) (by decide) (t := (.object "com/example/nearfield/nearfield/job/RankedReads$Run")) (t' := .long) (by decide) (by decide)))
  have xF292 := xF268.other W289 (Or.inr (slot_ne (Or.inl (ow hw 27 rfl)) (Or.inr (ow hw 48 rfl)) (by decide) (t := (.object "com/example/nearfield/nearfield/job/RankedReads$Run")) (t' := .long) (by decide) (by decide)))
  have xF293 := xF269.other W289 (Or.inr (slot_ne (Or.inr (ow hw 29 rfl)) (Or.inr (ow hw 48 rfl)) (by decide) (t := (.object "com/example/nearfield/nearfield/job/RankedReads$Run")) (t' := .long) (by decide) (by decide)))
  have xF294 := xF270.other W289 (Or.inr (slot_ne (Or.inr (ow hw 40 rfl)) (Or.inr (ow hw 48 rfl)) (by decide) (t := .int) (t' := .long) (by decide) (by decide)))
  have xF295 := xF271.other W289 (Or.inr (slot_ne (Or.inr (ow hw 42 rfl)) (Or.inr (ow hw 48 rfl)) (by decide) (t := .int) (t' := .long) (by decide) (by decide)))
  have xF296 := xF272.other W289 (Or.inr (slot_ne (Or.inr (ow hw 44 rfl)) (Or.inr (ow hw 48 rfl)) (by decide) (t := .long) (t' := .long) (by decide) (by decide)))
  have xF297 := xF273.other W289 (Or.inr (slot_ne (Or.inr (ow hw 46 rfl)) (Or.inr (ow hw 48 rfl)) (by decide) (t := .long) (t' := .long) (by decide) (by decide)))
  have xF298 := xF274.same W289
  have xF299 := xF275.other W289 (Or.inr (slot_ne (Or.inl (ow hw 117 rfl)) (Or.inr (ow hw 48 rfl)) (by decide) (t := .int) (t' := .long) (by decide) (by decide)))
  have xF300 := xF276.other W289 (Or.inr (slot_ne (Or.inl (ow hw 82 rfl)) (Or.inr (ow hw 48 rfl)) (by decide) (t := .int) (t' := .long) (by decide) (by decide)))
  have xF301 := xF277.other W289 (Or.inr (slot_ne (Or.inl (ow hw 80 rfl)) (Or.inr (ow hw 48 rfl)) (by decide) (t := .int) (t' := .long) (by decide) (by decide)))
  have xF302 := xF278.other W289 (Or.inr (slot_ne (Or.inr (ow hw 50 rfl)) (Or.inr (ow hw 48 rfl)) (by decide) (t := (.array .int)) (t' := .long) (by decide) (by decide)))
  have xF303 := xF279.other W289 (Or.inr (slot_ne (Or.inl (ow hw 123 rfl)) (Or.inr (ow hw 48 rfl)) (by decide) (t := .boolean) (t' := .long) (by decide) (by decide)))
  have xF304 := xF280.other W289 (Or.inr (slot_ne (Or.inl (ow hw 125 rfl)) (Or.inr (ow hw 48 rfl)) (by decide) (t := .int) (t' := .long) (by decide) (by decide)))
  have xF305 := xF281.other W289 (Or.inr (slot_ne (Or.inl (ow hw 132 rfl)) (Or.inr (ow hw 48 rfl)) (by decide) (t := .long) (t' := .long) (by decide) (by decide)))
  have xF306 := xF282.keep (Keep.of_wr W289) (ninS (Ne.symm ne_b_b2) nin0) (ninS (Ne.symm (Nat.ne_of_lt (Nat.lt_trans lt1 lt2))) nin0) (ninS (Ne.symm (Nat.ne_of_lt (Nat.lt_trans (Nat.lt_trans lt1 lt2) lt3))) nin0)
  have xF307 := xF283.keep (Keep.of_wr W289) (ninS (Ne.symm ne_b_b63) nin0) (ninS (Ne.symm (Nat.ne_of_lt (Nat.lt_trans (Nat.lt_trans (Nat.lt_trans (Nat.lt_trans lt1 lt2) lt3) lt4) lt5))) nin0) (ninS (Ne.symm (Nat.ne_of_lt (Nat.lt_trans (Nat.lt_trans (Nat.lt_trans (Nat.lt_trans (Nat.lt_trans lt1 lt2) lt3) lt4) lt5) lt6))) nin0)
  have xF308 := xF284.keep (Keep.of_wr W289) (ninS (Ne.symm ne_b_b127) nin0) (ninS (Ne.symm (Nat.ne_of_lt (Nat.lt_trans (Nat.lt_trans (Nat.lt_trans (Nat.lt_trans (Nat.lt_trans (Nat.lt_trans (Nat.lt_trans lt1 lt2) lt3) lt4) lt5) lt6) lt7) lt8))) nin0) (ninS (Ne.symm (Nat.ne_of_lt (Nat.lt_trans (Nat.lt_trans (Nat.lt_trans (Nat.lt_trans (Nat.lt_trans (Nat.lt_trans (Nat.lt_trans (Nat.lt_trans lt1 lt2) lt3) lt4) lt5) lt6) lt7) lt8) lt9))) nin0)
  have xN309 := Fr.snoc X289 xN285 gb
  have xZs310 := Nat.le_trans xZs286 (Keep.of_wr W289).1
  show Gd _ _ _ _ (T289.setTop (mkF m 111 #[.val (.ref b), .val (.int (3 : Int32))] []))
  refine Gd.go (fun _ w_k => XS.aloadN X289.here hx rfl (hb hby d1_111) rfl rfl (XS.iloadN X289.here hx rfl (hb hby d1_112) rfl w_k)) ?_
  show Gd _ _ _ _ (T289.setTop (mkF m 113 #[.val (.ref b), .val (.int (3 : Int32))] [(.int (3 : Int32)), (.ref b)]))
  have xl10 : (I2 : Nat) < h289.size := xF308.2.2.2.2.2.lt
  obtain ⟨T311, h311, k311, X311, e311, E311, A311, st311⟩ := newP X289 hx hZ (ow hw 21 rfl) e289 (g := (mkF m 113 #[.val (.ref b), .val (.int (3 : Int32))] [(.int (3 : Int32)), (.ref b)])) rfl (hb hby d1_113) rfl (by decide) (cap := 3) (by decide) (by decide) (by decide) (by decide)
  obtain ⟨b311, g311⟩ : ∃ z, z = h289.size := ⟨_, rfl⟩
  rw [← g311] at A311 st311
  have ne_b_b311 : b ≠ b311 := fun q => Nat.lt_irrefl _ (Nat.lt_of_lt_of_le xF290.lt (Nat.le_of_eq (q.trans g311).symm))
  have n0_b311 : n0 ≤ b311 := Nat.le_trans xZs310 (Nat.le_of_eq g311.symm)
  have xF312 := xF290.ext E311
  have xF313 := xF291.ext E311
  have xF314 := xF292.ext E311
  have xF315 := xF293.ext E311
  have xF316 := xF294.ext E311
  have xF317 := xF295.ext E311
  have xF318 := xF296.ext E311
  have xF319 := xF297.ext E311
  have xF320 := xF298.ext E311
  have xF321 := xF299.ext E311
  have xF322 := xF300.ext E311
  have xF323 := xF301.ext E311
  have xF324 := xF302.ext E311
  have xF325 := xF303.ext E311
  have xF326 := xF304.ext E311
  have xF327 := xF305.ext E311
  have xF328 := xF306.ext E311
  have xF329 := xF307.ext E311
  have xF330 := xF308.ext E311
  have xZs331 := Nat.le_trans xZs310 E311.1
  have xF332 : ArF Z h311 b311 .int 3 (fun _ => (.int (0 : Int32))) := own_new (h := h289) A311 (by decide)
  refine Gd.go (fun _ w_k => st311 _ w_k) ?_
  show Gd _ _ _ _ (T311.setTop (mkF m 115 #[.val (.ref b), .val (.int (3 : Int32))] [(.ref b311), (.ref b)]))
  have lt10 : (I2 : Nat) < b311 := Nat.lt_of_lt_of_le xl10 (Nat.le_of_eq g311.symm)
  obtain ⟨T333, h333, X333, e333, W333, st333⟩ := putF X311 hx hZ hown (host := "") (Or.inl (ow hw 49 rfl)) Via.refl e311 xF324 xF312 (Or.inr ⟨(ow hw 50 rfl), rfl, hnm⟩) (ow hw 3 rfl) (ty := (.array .int)) (by decide) rfl rfl (g := (mkF m 115 #[.val (.ref b), .val (.int (3 : Int32))] [(.ref b311), (.ref b)])) rfl rfl (hb hby d1_115)
  refine Gd.go (fun _ w_k => st333 _ w_k) ?_
  have xF334 := xF312.wr W333
  have xF335 := xF313.other W333 (Or.inr (slot_ne (Or.inl (ow hw 25 rfl)) (Or.inr (ow hw 50 rfl)) (by decide) (t := (.object "com/example/nearfield/nearfield/job/RankedReads$Run")) (t' := (.array .int)) (by decide) (by decide)))
  have xF336 := xF314.other W333 (Or.inr (slot_ne (Or.inl (ow hw 27 rfl)) (Or.inr (ow hw 50 rfl)) (by decide) (t := (.object "com/example/nearfield/nearfield/job/RankedReads$Run")) (t' := (.array .int)) (by decide) (by decide)))
  have xF337 := xF315.other W333 (Or.inr (slot_ne (Or.inr (ow hw 29 rfl)) (Or.inr (ow hw 50 rfl)) (by decide) (t := (.object "com/example/nearfield/nearfield/job/RankedReads$Run")) (t' := (.array .int)) (by decide) (by decide)))
  have xF338 := xF316.other W333 (Or.inr (slot_ne (Or.inr (ow hw 40 rfl)) (Or.inr (ow hw 50 rfl)) (by decide) (t := .int) (t' := (.array .int)) (by decide) (by decide)))
  have xF339 := xF317.other W333 (Or.inr (slot_ne (Or.inr (ow hw 42 rfl)) (Or.inr (ow hw 50 rfl)) (by decide) (t := .int) (t' := (.array .int)) (by decide) (by decide)))
  have xF340 := xF318.other W333 (Or.inr (slot_ne (Or.inr (ow hw 44 rfl)) (Or.inr (ow hw 50 rfl)) (by decide) (t := .long) (t' := (.array .int)) (by decide) (by decide)))
  have xF341 := xF319.other W333 (Or.inr (slot_ne (Or.inr (ow hw 46 rfl)) (Or.inr (ow hw 50 rfl)) (by decide) (t := .long) (t' := (.array .int)) (by decide) (by decide)))
  have xF342 := xF320.other W333 (Or.inr (slot_ne (Or.inr (ow hw 48 rfl)) (Or.inr (ow hw 50 rfl)) (by decide) (t := .long) (t' := (.array .int)) (by decide) (by decide)))
  have xF343 := xF321.other W333 (Or.inr (slot_ne (Or.inl (ow hw 117 rfl)) (Or.inr (ow hw 50 rfl)) (by decide) (t := .int) (t' := (.array .int)) (by decide) (by decide)))
  have xF344 := xF322.other W333 (Or.inr (slot_ne (Or.inl (ow hw 82 rfl)) (Or.inr (ow hw 50 rfl)) (by decide) (t := .int) (t' := (.array .int)) (by decide) (by decide)))
  have xF345 := xF323.other W333 (Or.inr (slot_ne (Or.inl (ow hw 80 rfl)) (Or.inr (ow hw 50 rfl)) (by decide) (t := .int) (t' := (.array .int)) (by decide) (by decide)))
  have xF346 := xF324.same W333
  have xF347 := xF325.other W333 (Or.inr (slot_ne (Or.inl (ow hw 123 rfl)) (Or.inr (ow hw 50 rfl)) (by decide) (t := .boolean) (t' := (.array .int)) (by decide) (by decide)))
  have xF348 := xF326.other W333 (Or.inr (slot_ne (Or.inl (ow hw 125 rfl)) (Or.inr (ow hw 50 rfl)) (by decide) (t := .int) (t' := (.array .int)) (by decide) (by decide)))
  have xF349 := xF327.other W333 (Or.inr (slot_ne (Or.inl (ow hw 132 rfl)) (Or.inr (ow hw 50 rfl)) (by decide) (t := .long) (t' := (.array .int)) (by decide) (by decide)))
  have xF350 := xF328.keep (Keep.of_wr W333) (ninS (Ne.symm ne_b_b2) nin0) (ninS (Ne.symm (Nat.ne_of_lt (Nat.lt_trans lt1 lt2))) nin0) (ninS (Ne.symm (Nat.ne_of_lt (Nat.lt_trans (Nat.lt_trans lt1 lt2) lt3))) nin0)
  have xF351 := xF329.keep (Keep.of_wr W333) (ninS (Ne.symm ne_b_b63) nin0) (ninS (Ne.symm (Nat.ne_of_lt (Nat.lt_trans (Nat.lt_trans (Nat.lt_trans (Nat.lt_trans lt1 lt2) lt3) lt4) lt5))) nin0) (ninS (Ne.symm (Nat.ne_of_lt (Nat.lt_trans (Nat.lt_trans (Nat.lt_trans (Nat.lt_trans (Nat.lt_trans lt1 lt2) lt3) lt4) lt5) lt6))) nin0)
  have xF352 := xF330.keep (Keep.of_wr W333) (ninS (Ne.symm ne_b_b127) nin0) (ninS (Ne.symm (Nat.ne_of_lt (Nat.lt_trans (Nat.lt_trans (Nat.lt_trans (Nat.lt_trans (Nat.lt_trans (Nat.lt_trans (Nat.lt_trans lt1 lt2) lt3) lt4) lt5) lt6) lt7) lt8))) nin0) (ninS (Ne.symm (Nat.ne_of_lt (Nat.lt_trans (Nat.lt_trans (Nat.lt_trans (Nat.lt_trans (Nat.lt_trans (Nat.lt_trans (Nat.lt_trans (Nat.lt_trans lt1 lt2) lt3) lt4) lt5) lt6) lt7) lt8) lt9))) nin0)
  have xF353 := xF332.other W333 (Ne.symm ne_b_b311)
  have xN354 := Fr.snoc X333 xN309 gb
  have xZs355 := Nat.le_trans xZs331 (Keep.of_wr W333).1
  show Gd _ _ _ _ (T333.setTop (mkF m 118 #[.val (.ref b), .val (.int (3 : Int32))] []))
  refine own_retV X333 hx hret hlk (hb hby d1_118) ?_ (by decide) (by decide)
  rw [e333]
  refine ⟨rfl, ⟨fun i => ([b, b2, b63, b127, R0, R1, R2, I0, I1, I2, b311] : List Addr).getD i 0, rfl, ?_, ?_, xF334, xF350.1, xF351.1, xF352.1, xF335, xF336, xF337, xF338, xF339, xF340, xF341, xF342, xF343, xF344, xF345, xF346, xF347, xF348, xF349, xF350.2.1, xF350.2.2.1, xF350.2.2.2.1, xF351.2.1, xF351.2.2.1, xF351.2.2.2.1, xF352.2.1, xF352.2.2.1, xF352.2.2.2.1, xF350.2.2.2.2.1, xF351.2.2.2.2.1, xF352.2.2.2.2.1, xF350.2.2.2.2.2, xF351.2.2.2.2.2, xF352.2.2.2.2.2, xF353.congr (fun i _ => by simp [own_I, defaultValue])⟩, xN354⟩
  · intro i j hi hj hne
    match i, hi, j, hj with
    | 0, _, 0, _ => exact absurd rfl hne
    | 0, _, 1, _ => exact (Nat.ne_of_lt lt1)
    | 0, _, 2, _ => exact (Nat.ne_of_lt (Nat.lt_trans (Nat.lt_trans (Nat.lt_trans lt1 lt2) lt3) lt4))
    | 0, _, 3, _ => exact (Nat.ne_of_lt (Nat.lt_trans (Nat.lt_trans (Nat.lt_trans (Nat.lt_trans (Nat.lt_trans (Nat.lt_trans lt1 lt2) lt3) lt4) lt5) lt6) lt7))
    | 0, _, 4, _ => exact (Nat.ne_of_lt (Nat.lt_trans lt1 lt2))
    | 0, _, 5, _ => exact (Nat.ne_of_lt (Nat.lt_trans (Nat.lt_trans (Nat.lt_trans (Nat.lt_trans lt1 lt2) lt3) lt4) lt5))
    | 0, _, 6, _ => exact (Nat.ne_of_lt (Nat.lt_trans (Nat.lt_trans (Nat.lt_trans (Nat.lt_trans (Nat.lt_trans (Nat.lt_trans (Nat.lt_trans lt1 lt2) lt3) lt4) lt5) lt6) lt7) lt8))
    | 0, _, 7, _ => exact (Nat.ne_of_lt (Nat.lt_trans (Nat.lt_trans lt1 lt2) lt3))
    | 0, _, 8, _ => exact (Nat.ne_of_lt (Nat.lt_trans (Nat.lt_trans (Nat.lt_trans (Nat.lt_trans (Nat.lt_trans lt1 lt2) lt3) lt4) lt5) lt6))
    | 0, _, 9, _ => exact (Nat.ne_of_lt (Nat.lt_trans (Nat.lt_trans (Nat.lt_trans (Nat.lt_trans (Nat.lt_trans (Nat.lt_trans (Nat.lt_trans (Nat.lt_trans lt1 lt2) lt3) lt4) lt5) lt6) lt7) lt8) lt9))
    | 0, _, 10, _ => exact (Nat.ne_of_lt (Nat.lt_trans (Nat.lt_trans (Nat.lt_trans (Nat.lt_trans (Nat.lt_trans (Nat.lt_trans (Nat.lt_trans (Nat.lt_trans (Nat.lt_trans lt1 lt2) lt3) lt4) lt5) lt6) lt7) lt8) lt9) lt10))
    | 1, _, 0, _ => exact (Ne.symm (Nat.ne_of_lt lt1))
    | 1, _, 1, _ => exact absurd rfl hne
    | 1, _, 2, _ => exact (Nat.ne_of_lt (Nat.lt_trans (Nat.lt_trans lt2 lt3) lt4))
    | 1, _, 3, _ => exact (Nat.ne_of_lt (Nat.lt_trans (Nat.lt_trans (Nat.lt_trans (Nat.lt_trans (Nat.lt_trans lt2 lt3) lt4) lt5) lt6) lt7))
    | 1, _, 4, _ => exact (Nat.ne_of_lt lt2)
    | 1, _, 5, _ => exact (Nat.ne_of_lt (Nat.lt_trans (Nat.lt_trans (Nat.lt_trans lt2 lt3) lt4) lt5))
    | 1, _, 6, _ => exact (Nat.ne_of_lt (Nat.lt_trans (Nat.lt_trans (Nat.lt_trans (Nat.lt_trans (Nat.lt_trans (Nat.lt_trans lt2 lt3) lt4) lt5) lt6) lt7) lt8))
    | 1, _, 7, _ => exact (Nat.ne_of_lt (Nat.lt_trans lt2 lt3))
    | 1, _, 8, _ => exact (Nat.ne_of_lt (Nat.lt_trans (Nat.lt_trans (Nat.lt_trans (Nat.lt_trans lt2 lt3) lt4) lt5) lt6))
    | 1, _, 9, _ => exact (Nat.ne_of_lt (Nat.lt_trans (Nat.lt_trans (Nat.lt_trans (Nat.lt_trans (Nat.lt_trans (Nat.lt_trans (Nat.lt_trans lt2 lt3) lt4) lt5) lt6) lt7) lt8) lt9))
    | 1, _, 10, _ => exact (Nat.ne_of_lt (Nat.lt_trans (Nat.lt_trans (Nat.lt_trans (Nat.lt_trans (Nat.lt_trans (Nat.lt_trans (Nat.lt_trans (Nat.lt_trans lt2 lt3) lt4) lt5) lt6) lt7) lt8) lt9) lt10))
    | 2, _, 0, _ => exact (Ne.symm (Nat.ne_of_lt (Nat.lt_trans (Nat.lt_trans (Nat.lt_trans lt1 lt2) lt3) lt4)))
    | 2, _, 1, _ => exact (Ne.symm (Nat.ne_of_lt (Nat.lt_trans (Nat.lt_trans lt2 lt3) lt4)))
    | 2, _, 2, _ => exact absurd rfl hne
    | 2, _, 3, _ => exact (Nat.ne_of_lt (Nat.lt_trans (Nat.lt_trans lt5 lt6) lt7))
    | 2, _, 4, _ => exact (Ne.symm (Nat.ne_of_lt (Nat.lt_trans lt3 lt4)))
    | 2, _, 5, _ => exact (Nat.ne_of_lt lt5)
    | 2, _, 6, _ => exact (Nat.ne_of_lt (Nat.lt_trans (Nat.lt_trans (Nat.lt_trans lt5 lt6) lt7) lt8))
    | 2, _, 7, _ => exact (Ne.symm (Nat.ne_of_lt lt4))
    | 2, _, 8, _ => exact (Nat.ne_of_lt (Nat.lt_trans lt5 lt6))
    | 2, _, 9, _ => exact (Nat.ne_of_lt (Nat.lt_trans (Nat.lt_trans (Nat.lt_trans (Nat.lt_trans lt5 lt6) lt7) lt8) lt9))
    | 2, _, 10, _ => exact (Nat.ne_of_lt (Nat.lt_trans (Nat.lt_trans (Nat.lt_trans (Nat.lt_trans (Nat.lt_trans lt5 lt6) lt7) lt8) lt9) lt10))
    | 3, _, 0, _ => exact (Ne.symm (Nat.ne_of_lt (Nat.lt_trans (Nat.lt_trans (Nat.lt_trans (Nat.lt_trans (Nat.lt_trans (Nat.lt_trans lt1 lt2) lt3) lt4) lt5) lt6) lt7)))
    | 3, _, 1, _ => exact (Ne.symm (Nat.ne_of_lt (Nat.lt_trans (Nat.lt_trans (Nat.lt_trans (Nat.lt_trans (Nat.lt_trans lt2 lt3) lt4) lt5) lt6) lt7)))
    | 3, _, 2, _ => exact (Ne.symm (Nat.ne_of_lt (Nat.lt_trans (Nat.lt_trans lt5 lt6) lt7)))
    | 3, _, 3, _ => exact absurd rfl hne
    | 3, _, 4, _ => exact (Ne.symm (Nat.ne_of_lt (Nat.lt_trans (Nat.lt_trans (Nat.lt_trans (Nat.lt_trans lt3 lt4) lt5) lt6) lt7)))
    | 3, _, 5, _ => exact (Ne.symm (Nat.ne_of_lt (Nat.lt_trans lt6 lt7)))
    | 3, _, 6, _ => exact (Nat.ne_of_lt lt8)
    | 3, _, 7, _ => exact (Ne.symm (Nat.ne_of_lt (Nat.lt_trans (Nat.lt_trans (Nat.lt_trans lt4 lt5) lt6) lt7)))
    | 3, _, 8, _ => exact (Ne.symm (Nat.ne_of_lt lt7))
    | 3, _, 9, _ => exact (Nat.ne_of_lt (Nat.lt_trans lt8 lt9))
    | 3, _, 10, _ => exact (Nat.ne_of_lt (Nat.lt_trans (Nat.lt_trans lt8 lt9) lt10))
    | 4, _, 0, _ => exact (Ne.symm (Nat.ne_of_lt (Nat.lt_trans lt1 lt2)))
    | 4, _, 1, _ => exact (Ne.symm (Nat.ne_of_lt lt2))
    | 4, _, 2, _ => exact (Nat.ne_of_lt (Nat.lt_trans lt3 lt4))
    | 4, _, 3, _ => exact (Nat.ne_of_lt (Nat.lt_trans (Nat.lt_trans (Nat.lt_trans (Nat.lt_trans lt3 lt4) lt5) lt6) lt7))
    | 4, _, 4, _ => exact absurd rfl hne
    | 4, _, 5, _ => exact (Nat.ne_of_lt (Nat.lt_trans (Nat.lt_trans lt3 lt4) lt5))
    | 4, _, 6, _ => exact (Nat.ne_of_lt (Nat.lt_trans (Nat.lt_trans (Nat.lt_trans (Nat.lt_trans (Nat.lt_trans lt3 lt4) lt5) lt6) lt7) lt8))
    | 4, _, 7, _ => exact (Nat.ne_of_lt lt3)
    | 4, _, 8, _ => exact (Nat.ne_of_lt (Nat.lt_trans (Nat.lt_trans (Nat.lt_trans lt3 lt4) lt5) lt6))
    | 4, _, 9, _ => exact (Nat.ne_of_lt (Nat.lt_trans (Nat.lt_trans (Nat.lt_trans (Nat.lt_trans (Nat.lt_trans (Nat.lt_trans lt3 lt4) lt5) lt6) lt7) lt8) lt9))
    | 4, _, 10, _ => exact (Nat.ne_of_lt (Nat.lt_trans (Nat.lt_trans (Nat.lt_trans (Nat.lt_trans (Nat.lt_trans (Nat.lt_trans (Nat.lt_trans lt3 lt4) lt5) lt6) lt7) lt8) lt9) lt10))
    | 5, _, 0, _ => exact (Ne.symm (Nat.ne_of_lt (Nat.lt_trans (Nat.lt_trans (Nat.lt_trans (Nat.lt_trans lt1 lt2) lt3) lt4) lt5)))
    | 5, _, 1, _ => exact (Ne.symm (Nat.ne_of_lt (Nat.lt_trans (Nat.lt_trans (Nat.lt_trans lt2 lt3) lt4) lt5)))
    | 5, _, 2, _ => exact (Ne.symm (Nat.ne_of_lt lt5))
    | 5, _, 3, _ => exact (Nat.ne_of_lt (Nat.lt_trans lt6 lt7))
    | 5, _, 4, _ => exact (Ne.symm (Nat.ne_of_lt (Nat.lt_trans (Nat.lt_trans lt3 lt4) lt5)))
    | 5, _, 5, _ => exact absurd rfl hne
    | 5, _, 6, _ => exact (Nat.ne_of_lt (Nat.lt_trans (Nat.lt_trans lt6 lt7) lt8))
    | 5, _, 7, _ => exact (Ne.symm (Nat.ne_of_lt (Nat.lt_trans lt4 lt5)))
    | 5, _, 8, _ => exact (Nat.ne_of_lt lt6)
    | 5, _, 9, _ => exact (Nat.ne_of_lt (Nat.lt_trans (Nat.lt_trans (Nat.lt_trans lt6 lt7) lt8) lt9))
    | 5, _, 10, _ => exact (Nat.ne_of_lt (Nat.lt_trans (Nat.lt_trans (Nat.lt_trans (Nat.lt_trans lt6 lt7) lt8) lt9) lt10))
    | 6, _, 0, _ => exact (Ne.symm (Nat.ne_of_lt (Nat.lt_trans (Nat.lt_trans (Nat.lt_trans (Nat.lt_trans (Nat.lt_trans (Nat.lt_trans (Nat.lt_trans lt1 lt2) lt3) lt4) lt5) lt6) lt7) lt8)))
    | 6, _, 1, _ => exact (Ne.symm (Nat.ne_of_lt (Nat.lt_trans (Nat.lt_trans (Nat.lt_trans (Nat.lt_trans (Nat.lt_trans (Nat.lt_trans lt2 lt3) lt4) lt5) lt6) lt7) lt8)))
    | 6, _, 2, _ => exact (Ne.symm (Nat.ne_of_lt (Nat.lt_trans (Nat.lt_trans (Nat.lt_trans lt5 lt6) lt7) lt8)))
    | 6, _, 3, _ => exact (Ne.symm (Nat.ne_of_lt lt8))
    | 6, _, 4, _ => exact (Ne.symm (Nat.ne_of_lt (Nat.lt_trans (Nat.lt_trans (Nat.lt_trans (Nat.lt_trans (Nat.lt_trans lt3 lt4) lt5) lt6) lt7) lt8)))
    | 6, _, 5, _ => exact (Ne.symm (Nat.ne_of_lt (Nat.lt_trans (Nat.lt_trans lt6 lt7) lt8)))
    | 6, _, 6, _ => exact absurd rfl hne
    | 6, _, 7, _ => exact (Ne.symm (Nat.ne_of_lt (Nat.lt_trans (Nat.lt_trans (Nat.lt_trans (Nat.lt_trans lt4 lt5) lt6) lt7) lt8)))
    | 6, _, 8, _ => exact (Ne.symm (Nat.ne_of_lt (Nat.lt_trans lt7 lt8)))
    | 6, _, 9, _ => exact (Nat.ne_of_lt lt9)
    | 6, _, 10, _ => exact (Nat.ne_of_lt (Nat.lt_trans lt9 lt10))
    | 7, _, 0, _ => exact (Ne.symm (Nat.ne_of_lt (Nat.lt_trans (Nat.lt_trans lt1 lt2) lt3)))
    | 7, _, 1, _ => exact (Ne.symm (Nat.ne_of_lt (Nat.lt_trans lt2 lt3)))
    | 7, _, 2, _ => exact (Nat.ne_of_lt lt4)
    | 7, _, 3, _ => exact (Nat.ne_of_lt (Nat.lt_trans (Nat.lt_trans (Nat.lt_trans lt4 lt5) lt6) lt7))
    | 7, _, 4, _ => exact (Ne.symm (Nat.ne_of_lt lt3))
    | 7, _, 5, _ => exact (Nat.ne_of_lt (Nat.lt_trans lt4 lt5))
    | 7, _, 6, _ => exact (Nat.ne_of_lt (Nat.lt_trans (Nat.lt_trans (Nat.lt_trans (Nat.lt_trans lt4 lt5) lt6) lt7) lt8))
    | 7, _, 7, _ => exact absurd rfl hne
    | 7, _, 8, _ => exact (Nat.ne_of_lt (Nat.lt_trans (Nat.lt_trans lt4 lt5) lt6))
    | 7, _, 9, _ => exact (Nat.ne_of_lt (Nat.lt_trans (Nat.lt_trans (Nat.lt_trans (Nat.lt_trans (Nat.lt_trans lt4 lt5) lt6) lt7) lt8) lt9))
    | 7, _, 10, _ => exact (Nat.ne_of_lt (Nat.lt_trans (Nat.lt_trans (Nat.lt_trans (Nat.lt_trans (Nat.lt_trans (Nat.lt_trans lt4 lt5) lt6) lt7) lt8) lt9) lt10))
    | 8, _, 0, _ => exact (Ne.symm (Nat.ne_of_lt (Nat.lt_trans (Nat.lt_trans (Nat.lt_trans (Nat.lt_trans (Nat.lt_trans lt1 lt2) lt3) lt4) lt5) lt6)))
    | 8, _, 1, _ => exact (Ne.symm (Nat.ne_of_lt (Nat.lt_trans (Nat.lt_trans (Nat.lt_trans (Nat.lt_trans lt2 lt3) lt4) lt5) lt6)))
    | 8, _, 2, _ => exact (Ne.symm (Nat.ne_of_lt (Nat.lt_trans lt5 lt6)))
    | 8, _, 3, _ => exact (Nat.ne_of_lt lt7)
    | 8, _, 4, _ => exact (Ne.symm (Nat.ne_of_lt (Nat.lt_trans (Nat.lt_trans (Nat.lt_trans lt3 lt4) lt5) lt6)))
    | 8, _, 5, _ => exact (Ne.symm (Nat.ne_of_lt lt6))
    | 8, _, 6, _ => exact (Nat.ne_of_lt (Nat.lt_trans lt7 lt8))
    | 8, _, 7, _ => exact (Ne.symm (Nat.ne_of_lt (Nat.lt_trans (Nat.lt_trans lt4 lt5) lt6)))
    | 8, _, 8, _ => exact absurd rfl hne
    | 8, _, 9, _ => exact (Nat.ne_of_lt (Nat.lt_trans (Nat.lt_trans lt7 lt8) lt9))
    | 8, _, 10, _ => exact (Nat.ne_of_lt (Nat.lt_trans (Nat.lt_trans (Nat.lt_trans lt7 lt8) lt9) lt10))
    | 9, _, 0, _ => exact (Ne.symm (Nat.ne_of_lt (Nat.lt_trans (Nat.lt_trans (Nat.lt_trans (Nat.lt_trans (Nat.lt_trans (Nat.lt_trans (Nat.lt_trans (Nat.lt_trans lt1 lt2) lt3) lt4) lt5) lt6) lt7) lt8) lt9)))
    | 9, _, 1, _ => exact (Ne.symm (Nat.ne_of_lt (Nat.lt_trans (Nat.lt_trans (Nat.lt_trans (Nat.lt_trans (Nat.lt_trans (Nat.lt_trans (Nat.lt_trans lt2 lt3) lt4) lt5) lt6) lt7) lt8) lt9)))
    | 9, _, 2, _ => exact (Ne.symm (Nat.ne_of_lt (Nat.lt_trans (Nat.lt_trans (Nat.lt_trans (Nat.lt_trans lt5 lt6) lt7) lt8) lt9)))
    | 9, _, 3, _ => exact (Ne.symm (Nat.ne_of_lt (Nat.lt_trans lt8 lt9)))
    | 9, _, 4, _ => exact (Ne.symm (Nat.ne_of_lt (Nat.lt_trans (Nat.lt_trans (Nat.lt_trans (Nat.lt_trans (Nat.lt_trans (Nat.lt_trans lt3 lt4) lt5) lt6) lt7) lt8) lt9)))
    | 9, _, 5, _ => exact (Ne.symm (Nat.ne_of_lt (Nat.lt_trans (Nat.lt_trans (Nat.lt_trans lt6 lt7) lt8) lt9)))
    | 9, _, 6, _ => exact (Ne.symm (Nat.ne_of_lt lt9))
    | 9, _, 7, _ => exact (Ne.symm (Nat.ne_of_lt (Nat.lt_trans (Nat.lt_trans (Nat.lt_trans (Nat.lt_trans (Nat.lt_trans lt4 lt5) lt6) lt7) lt8) lt9)))
    | 9, _, 8, _ => exact (Ne.symm (Nat.ne_of_lt (Nat.lt_trans (Nat.lt_trans lt7 lt8) lt9)))
    | 9, _, 9, _ => exact absurd rfl hne
    | 9, _, 10, _ => exact (Nat.ne_of_lt lt10)
    | 10, _, 0, _ => exact (Ne.symm (Nat.ne_of_lt (Nat.lt_trans (Nat.lt_trans (Nat.lt_trans (Nat.lt_trans (Nat.lt_trans (Nat.lt_trans (Nat.lt_trans (Nat.lt_trans (Nat.lt_trans lt1 lt2) lt3) lt4) lt5) lt6) lt7) lt8) lt9) lt10)))
    | 10, _, 1, _ => exact (Ne.symm (Nat.ne_of_lt (Nat.lt_trans (Nat.lt_trans (Nat.lt_trans (Nat.lt_trans (Nat.lt_trans (Nat.lt_trans (Nat.lt_trans (Nat.lt_trans lt2 lt3) lt4) lt5) lt6) lt7) lt8) lt9) lt10)))
    | 10, _, 2, _ => exact (Ne.symm (Nat.ne_of_lt (Nat.lt_trans (Nat.lt_trans (Nat.lt_trans (Nat.lt_trans (Nat.lt_trans lt5 lt6) lt7) lt8) lt9) lt10)))
    | 10, _, 3, _ => exact (Ne.symm (Nat.ne_of_lt (Nat.lt_trans (Nat.lt_trans lt8 lt9) lt10)))
    | 10, _, 4, _ => exact (Ne.symm (Nat.ne_of_lt (Nat.lt_trans (Nat.lt_trans (Nat.lt_trans (Nat.lt_trans (Nat.lt_trans (Nat.lt_trans (Nat.lt_trans lt3 lt4) lt5) lt6) lt7) lt8) lt9) lt10)))
    | 10, _, 5, _ => exact (Ne.symm (Nat.ne_of_lt (Nat.lt_trans (Nat.lt_trans (Nat.lt_trans (Nat.lt_trans lt6 lt7) lt8) lt9) lt10)))
    | 10, _, 6, _ => exact (Ne.symm (Nat.ne_of_lt (Nat.lt_trans lt9 lt10)))
    | 10, _, 7, _ => exact (Ne.symm (Nat.ne_of_lt (Nat.lt_trans (Nat.lt_trans (Nat.lt_trans (Nat.lt_trans (Nat.lt_trans (Nat.lt_trans lt4 lt5) lt6) lt7) lt8) lt9) lt10)))
    | 10, _, 8, _ => exact (Ne.symm (Nat.ne_of_lt (Nat.lt_trans (Nat.lt_trans (Nat.lt_trans lt7 lt8) lt9) lt10)))
    | 10, _, 9, _ => exact (Ne.symm (Nat.ne_of_lt lt10))
    | 10, _, 10, _ => exact absurd rfl hne
    | (q + 11), h, _, _ => exact absurd h (by omega)
    | _, _, (q + 11), h => exact absurd h (by omega)
  · intro i hi
    match i, hi with
    | 0, _ => exact gb
    | 1, _ => exact n0_b2
    | 2, _ => exact n0_b63
    | 3, _ => exact n0_b127
    | 4, _ => exact nR0
    | 5, _ => exact nR1
    | 6, _ => exact nR2
    | 7, _ => exact nI0
    | 8, _ => exact nI1
    | 9, _ => exact nI2
    | 10, _ => exact n0_b311
    | (q + 11), h => exact absurd h (by omega)
theorem own_m31 (t : Int64) : 0 ≤ (t &&& (2147483647 : Int64)).toInt ∧ (t &&& (2147483647 : Int64)).toInt ≤ 2147483647 := by
  have h := c_maskL t 2147483647 31 (by decide) (by decide +kernel); omega
theorem own_m30 (t : Int64) : 0 ≤ (t &&& (1073741823 : Int64)).toInt ∧ (t &&& (1073741823 : Int64)).toInt ≤ 1073741823 := by
  have h := c_maskL t 1073741823 30 (by decide) (by decide +kernel); omega
theorem own_shl (v : Int64) (q : Int32) {k : Nat} (hk : q.toBitVec.toNat % 64 = k) : (v <<< (q &&& 0x3f).toInt64).toBitVec = v.toBitVec <<< k := by
  show v.toBitVec <<< ((q &&& 0x3f).toInt64.toBitVec.smod 64) = _
  rw [BitVec.shiftLeft_eq', (sm64 q k hk).1, smod64 k (sm64 q k hk).2]
theorem own_lowz (v : BitVec 64) {k : Nat} (hk : 2 ≤ k) : (v <<< k) &&& 3#64 = 0#64 := by
  apply BitVec.eq_of_getLsbD_eq
  intro i hi
  rw [BitVec.getLsbD_and, BitVec.getLsbD_shiftLeft]
  by_cases q : i < 2
  · have : i < k := by omega
    simp [this]
  · have e : (3#64).getLsbD i = false := by
      rw [BitVec.getLsbD_ofNat]
      have : Nat.testBit 3 i = false := Nat.testBit_lt_two_pow (Nat.lt_of_lt_of_le (show 3 < 2 ^ 2 by decide) (Nat.pow_le_pow_right (by decide) (by omega)))
      simp [this]
    simp [e]
theorem own_qx (u f i : Int64) (hi : i &&& 3 = i) : own_q u f i &&& 3 = i := by
  apply Int64.toBitVec_inj.mp
  have hi' : i.toBitVec &&& 3#64 = i.toBitVec := Int64.toBitVec_inj.mpr hi
  show ((u <<< ((32 : Int32) &&& 0x3f).toInt64).toBitVec ||| (((1073741823 : Int64) - f) <<< ((2 : Int32) &&& 0x3f).toInt64).toBitVec ||| i.toBitVec) &&& 3#64 = i.toBitVec
  rw [own_shl u 32 (k := 32) (by decide), own_shl ((1073741823 : Int64) - f) 2 (k := 2) (by decide)]
  have h1 := own_lowz u.toBitVec (k := 32) (by decide)
  have h2 := own_lowz ((1073741823 : Int64) - f).toBitVec (k := 2) (by decide)
  generalize u.toBitVec <<< 32 = A at h1
  generalize ((1073741823 : Int64) - f).toBitVec <<< 2 = B at h2
  have e : (A ||| B ||| i.toBitVec) &&& 3#64 = (A &&& 3#64) ||| (B &&& 3#64) ||| (i.toBitVec &&& 3#64) := by
    apply BitVec.eq_of_getLsbD_eq
    intro j hj
    simp only [BitVec.getLsbD_or, BitVec.getLsbD_and]
    cases A.getLsbD j <;> cases B.getLsbD j <;> cases i.toBitVec.getLsbD j <;> cases (3#64).getLsbD j <;> rfl
  rw [e, h1, h2, hi']
  simp
def own_mk (m c : Int32) : Int32 := if m &&& c = 0 then 0 else 1
theorem own_mk0 (m c : Int32) : own_mk m c = 0 ↔ m &&& c = 0 := by
  unfold own_mk; split
  · simp [*]
  · rename_i h; exact ⟨fun q => absurd q (by decide), fun q => absurd q h⟩
theorem own_bit0 (m : Int32) : ((m >>> ((0 : Int32) &&& 31)) &&& 1) = 0 ↔ m &&& 1 = 0 := by
  have a := c_ishr m 0 0 (by decide)
  have e : m >>> ((0 : Int32) &&& 31) = m := Int32.toInt_inj.mp (by rw [a]; simp)
  rw [e]
theorem own_low3 {t : Int32} (h1 : 0 ≤ t.toInt) (h2 : t.toInt < 8) : t = 0 ∨ t = 1 ∨ t = 2 ∨ t = 3 ∨ t = 4 ∨ t = 5 ∨ t = 6 ∨ t = 7 := by
  have : ∀ k : Fin 8, (Int32.ofNat k.val) = 0 ∨ (Int32.ofNat k.val) = 1 ∨ (Int32.ofNat k.val) = 2 ∨ (Int32.ofNat k.val) = 3 ∨ (Int32.ofNat k.val) = 4 ∨ (Int32.ofNat k.val) = 5 ∨ (Int32.ofNat k.val) = 6 ∨ (Int32.ofNat k.val) = 7 := by decide
  have e : t = Int32.ofNat t.toInt.toNat := Int32.toInt_inj.mp (by rw [own_ofN (by omega)]; omega)
  rw [e]; exact this ⟨t.toInt.toNat, by omega⟩
theorem own_bitc (m q c : Int32) (k : Nat) (hk : q.toBitVec.toNat % 32 = k) (h : ∀ t : Int32, t = 0 ∨ t = 1 ∨ t = 2 ∨ t = 3 ∨ t = 4 ∨ t = 5 ∨ t = 6 ∨ t = 7 → ((t.toInt / (2 ^ k : Nat)) % 2 = 0 ↔ t &&& c = 0)) (h7 : (7 : Int32) &&& c = c) (hd : ∀ z : Int, (z / (2 ^ k : Nat)) % 2 = ((z % 8) / (2 ^ k : Nat)) % 2) : ((m >>> (q &&& 31)) &&& 1) = 0 ↔ m &&& c = 0 := by
  have a := c_ishr m q k hk
  have b := c_mask (m >>> (q &&& 31)) 1 1 (by decide) (by decide +kernel)
  have t8 := c_mask m 7 3 (by decide) (by decide +kernel)
  have ee : m &&& c = (m &&& 7) &&& c := by rw [Int32.and_assoc, h7]
  have e7 : (m &&& 7).toInt = m.toInt % 8 := by rw [t8]; rfl
  have hh := h (m &&& 7) (own_low3 (by omega) (by omega))
  rw [ee, ← hh, e7, ← hd, ← a]
  have z : (0 : Int32).toInt = 0 := rfl
  constructor
  · intro g; have := congrArg Int32.toInt g; rw [b] at this; simpa [z] using this
  · intro g; apply Int32.toInt_inj.mp; rw [b, z]; simpa using g
theorem own_bit1 (m : Int32) : ((m >>> ((1 : Int32) &&& 31)) &&& 1) = 0 ↔ m &&& 2 = 0 := own_bitc m 1 2 1 (by decide) (by intro t h; rcases h with rfl | rfl | rfl | rfl | rfl | rfl | rfl | rfl <;> decide) (by decide) (by intro z; show (z / 2) % 2 = ((z % 8) / 2) % 2; omega)
theorem own_bit2 (m : Int32) : ((m >>> ((2 : Int32) &&& 31)) &&& 1) = 0 ↔ m &&& 4 = 0 := own_bitc m 2 4 2 (by decide) (by intro t h; rcases h with rfl | rfl | rfl | rfl | rfl | rfl | rfl | rfl <;> decide) (by decide) (by intro z; show (z / 4) % 2 = ((z % 8) / 4) % 2; omega)
theorem own_bitk (m : Int32) {B : Int32} (h : own_ix B) : ((m >>> (B &&& 31)) &&& 1) = 0 ↔ own_k (own_mk m 1) (own_mk m 2) (own_mk m 4) B = 0 := by
  rcases own_ix3 h with rfl | rfl | rfl
  · exact (own_bit0 m).trans (own_mk0 m 1).symm
  · exact (own_bit1 m).trans (own_mk0 m 2).symm
  · exact (own_bit2 m).trans (own_mk0 m 4).symm
theorem own_posb (x y z : Int64) : 0 ≤ (own_pos x y z).toInt ∧ (own_pos x y z).toInt < ((3 : Nat) : Int) := by unfold own_pos; split <;> split <;> decide
theorem own_P0 {a b c : Int64} (h1 : a < b) (h2 : a < c) : own_pos a b c = 0 := by
  have q1 : ¬ b < a := by rw [Int64.lt_iff_toInt_lt] at *; omega
  have q2 : ¬ c < a := by rw [Int64.lt_iff_toInt_lt] at *; omega
  unfold own_pos; rw [if_neg q1, if_neg q2]; rfl
theorem own_P1 {a b c : Int64} (h1 : a < b) (h2 : b < c) : own_pos b a c = 1 := by
  have q2 : ¬ c < b := by rw [Int64.lt_iff_toInt_lt] at *; omega
  unfold own_pos; rw [if_pos h1, if_neg q2]; rfl
theorem own_P1' {a b c : Int64} (h1 : a < b) (h2 : b < c) : own_pos b c a = 1 := by
  have q2 : ¬ c < b := by rw [Int64.lt_iff_toInt_lt] at *; omega
  unfold own_pos; rw [if_pos h1, if_neg q2]; rfl
theorem own_P2 {a b c : Int64} (h1 : a < c) (h2 : b < c) : own_pos c a b = 2 := by unfold own_pos; rw [if_pos h1, if_pos h2]; rfl
theorem own_lt {a b : Int64} (h : ¬ b < a) (n : a ≠ b) : a < b := by
  rw [Int64.lt_iff_toInt_lt] at *
  have : a.toInt ≠ b.toInt := fun q => n (Int64.toInt_inj.mp q)
  omega
theorem own_bp {x y z a b c : Int64} (hs : own_srt x y z a b c) (hx : ((x &&& (3 : Int64)).toInt32) = 0) (hy : ((y &&& (3 : Int64)).toInt32) = 1) (hz : ((z &&& (3 : Int64)).toInt32) = 2) :
    ∃ B0 B1 B2 : Int32, (∀ i, i < 3 → upd (upd (upd (fun _ => Value.int (0 : Int32)) (own_pos x y z).toNatClampNeg (.int (0 : Int32))) (own_pos y x z).toNatClampNeg (.int (1 : Int32))) (own_pos z x y).toNatClampNeg (.int (2 : Int32)) i = own_I B0 B1 B2 i) ∧ (((a &&& (3 : Int64)).toInt32) = B0 ∧ ((b &&& (3 : Int64)).toInt32) = B1 ∧ ((c &&& (3 : Int64)).toInt32) = B2) ∧
      (own_J x y z B0.toNatClampNeg = .long a ∧ own_J x y z B1.toNatClampNeg = .long b ∧ own_J x y z B2.toNatClampNeg = .long c) ∧ own_ix B0 ∧ own_ix B1 ∧ own_ix B2 := by
  have n1 : x ≠ y := fun q => by rw [q, hy] at hx; exact absurd hx (by decide)
  have n2 : x ≠ z := fun q => by rw [q, hz] at hx; exact absurd hx (by decide)
  have n3 : y ≠ z := fun q => by rw [q, hz] at hy; exact absurd hy (by decide)
  have i0 : own_ix 0 := ⟨by decide, by decide⟩
  have i1 : own_ix 1 := ⟨by decide, by decide⟩
  have i2 : own_ix 2 := ⟨by decide, by decide⟩
  have tr : ∀ {p q r : Int64}, p < q → q < r → p < r := fun {p q r} h1 h2 => by rw [Int64.lt_iff_toInt_lt] at *; omega
  have m3 : ∀ (P : Nat → Prop), P 0 → P 1 → P 2 → ∀ i, i < 3 → P i := fun P p0 p1 p2 i hi => (match i, hi with
    | 0, _ => p0
    | 1, _ => p1
    | 2, _ => p2
    | (q + 3), h => absurd h (by omega))
  obtain ⟨⟨s1, s2⟩, h⟩ := hs
  rcases h with ⟨rfl, rfl, rfl⟩ | ⟨rfl, rfl, rfl⟩ | ⟨rfl, rfl, rfl⟩ | ⟨rfl, rfl, rfl⟩ | ⟨rfl, rfl, rfl⟩ | ⟨rfl, rfl, rfl⟩
  · have l1 := own_lt s1 n1; have l2 := own_lt s2 n3
    refine ⟨0, 1, 2, ?_, ⟨hx, hy, hz⟩, ⟨rfl, rfl, rfl⟩, i0, i1, i2⟩
    rw [own_P0 l1 (tr l1 l2), own_P1 l1 l2, own_P2 (tr l1 l2) l2]
    exact m3 _ rfl rfl rfl
  · have l1 := own_lt s1 n2; have l2 := own_lt s2 n3.symm
    refine ⟨0, 2, 1, ?_, ⟨hx, hz, hy⟩, ⟨rfl, rfl, rfl⟩, i0, i2, i1⟩
    rw [own_P0 (tr l1 l2) l1, own_P2 (tr l1 l2) l2, own_P1 l1 l2]
    exact m3 _ rfl rfl rfl
  · have l1 := own_lt s1 n1.symm; have l2 := own_lt s2 n2
    refine ⟨1, 0, 2, ?_, ⟨hy, hx, hz⟩, ⟨rfl, rfl, rfl⟩, i1, i0, i2⟩
    rw [own_P1 l1 l2, own_P0 l1 (tr l1 l2), own_P2 l2 (tr l1 l2)]
    exact m3 _ rfl rfl rfl
  · have l1 := own_lt s1 n3; have l2 := own_lt s2 n2.symm
    refine ⟨1, 2, 0, ?_, ⟨hy, hz, hx⟩, ⟨rfl, rfl, rfl⟩, i1, i2, i0⟩
    rw [own_P2 (tr l1 l2) l2, own_P0 (tr l1 l2) l1, own_P1' l1 l2]
    exact m3 _ rfl rfl rfl
  · have l1 := own_lt s1 n2.symm; have l2 := own_lt s2 n1
    refine ⟨2, 0, 1, ?_, ⟨hz, hx, hy⟩, ⟨rfl, rfl, rfl⟩, i2, i0, i1⟩
    rw [own_P1' l1 l2, own_P2 l2 (tr l1 l2), own_P0 l1 (tr l1 l2)]
    exact m3 _ rfl rfl rfl
  · have l1 := own_lt s1 n3.symm; have l2 := own_lt s2 n1.symm
    refine ⟨2, 1, 0, ?_, ⟨hz, hy, hx⟩, ⟨rfl, rfl, rfl⟩, i2, i1, i0⟩
    rw [own_P2 l2 (tr l1 l2), own_P1' l1 l2, own_P0 (tr l1 l2) l1]
    exact m3 _ rfl rfl rfl
theorem own_H.ext {Z : State} {h h' : Heap} {n0 : Nat} {ad : Nat → Addr} {v_rn v_mg : Addr} {v_ra v_fa v_fk v_an v_at v_c1 v_c2 v_c3 v_i10 v_i11 v_i12 v_i20 v_i21 v_i22 v_i30 v_i31 v_i32 v_k0 v_k1 v_k2 : Int32} {v_nx v_l10 v_l11 v_l12 v_l20 v_l21 v_l22 v_l30 v_l31 v_l32 : Int64} (H : own_H Z h n0 ad v_rn v_mg v_ra v_fa v_fk v_an v_at v_nx v_c1 v_c2 v_c3 v_l10 v_l11 v_l12 v_l20 v_l21 v_l22 v_l30 v_l31 v_l32 v_i10 v_i11 v_i12 v_i20 v_i21 v_i22 v_i30 v_i31 v_i32 v_k0 v_k1 v_k2) (E : Ext h h') : own_H Z h' n0 ad v_rn v_mg v_ra v_fa v_fk v_an v_at v_nx v_c1 v_c2 v_c3 v_l10 v_l11 v_l12 v_l20 v_l21 v_l22 v_l30 v_l31 v_l32 v_i10 v_i11 v_i12 v_i20 v_i21 v_i22 v_i30 v_i31 v_i32 v_k0 v_k1 v_k2 := by
  obtain ⟨hinj, hge, E0, E1, E2, E3, r_run, r_merged, r_fresh, r_serverBits, r_freeBits, r_serverMask, r_mostFree, r_mostSpend, r_runAt, r_freshAt, r_freshKept, r_ranking, r_rankedAnew, r_at, r_next, u1_rank, u1_ranking, u1_count, u2_rank, u2_ranking, u2_count, u3_rank, u3_ranking, u3_count, a_l1, a_l2, a_l3, a_i1, a_i2, a_i3, a_k⟩ := H
  exact ⟨hinj, hge, E0.ext E, E1.ext E, E2.ext E, E3.ext E, r_run.ext E, r_merged.ext E, r_fresh.ext E, r_serverBits.ext E, r_freeBits.ext E, r_serverMask.ext E, r_mostFree.ext E, r_mostSpend.ext E, r_runAt.ext E, r_freshAt.ext E, r_freshKept.ext E, r_ranking.ext E, r_rankedAnew.ext E, r_at.ext E, r_next.ext E, u1_rank.ext E, u1_ranking.ext E, u1_count.ext E, u2_rank.ext E, u2_ranking.ext E, u2_count.ext E, u3_rank.ext E, u3_ranking.ext E, u3_count.ext E, a_l1.ext E, a_l2.ext E, a_l3.ext E, a_i1.ext E, a_i2.ext E, a_i3.ext E, a_k.ext E⟩
theorem own_H.lt {Z : State} {h : Heap} {n0 : Nat} {ad : Nat → Addr} {v_rn v_mg : Addr} {v_ra v_fa v_fk v_an v_at v_c1 v_c2 v_c3 v_i10 v_i11 v_i12 v_i20 v_i21 v_i22 v_i30 v_i31 v_i32 v_k0 v_k1 v_k2 : Int32} {v_nx v_l10 v_l11 v_l12 v_l20 v_l21 v_l22 v_l30 v_l31 v_l32 : Int64} (H : own_H Z h n0 ad v_rn v_mg v_ra v_fa v_fk v_an v_at v_nx v_c1 v_c2 v_c3 v_l10 v_l11 v_l12 v_l20 v_l21 v_l22 v_l30 v_l31 v_l32 v_i10 v_i11 v_i12 v_i20 v_i21 v_i22 v_i30 v_i31 v_i32 v_k0 v_k1 v_k2) : ∀ i, i < 11 → ad i < h.size := by
  obtain ⟨hinj, hge, E0, E1, E2, E3, r_run, r_merged, r_fresh, r_serverBits, r_freeBits, r_serverMask, r_mostFree, r_mostSpend, r_runAt, r_freshAt, r_freshKept, r_ranking, r_rankedAnew, r_at, r_next, u1_rank, u1_ranking, u1_count, u2_rank, u2_ranking, u2_count, u3_rank, u3_ranking, u3_count, a_l1, a_l2, a_l3, a_i1, a_i2, a_i3, a_k⟩ := H
  intro i hi
  match i, hi with
  | 0, _ => exact E0.lt
  | 1, _ => exact E1.lt
  | 2, _ => exact E2.lt
  | 3, _ => exact E3.lt
  | 4, _ => exact a_l1.lt
  | 5, _ => exact a_l2.lt
  | 6, _ => exact a_l3.lt
  | 7, _ => exact a_i1.lt
  | 8, _ => exact a_i2.lt
  | 9, _ => exact a_i3.lt
  | 10, _ => exact a_k.lt
  | (q + 11), h => exact absurd h (by omega)
theorem own_H.oth {Z : State} {h h' : Heap} {n0 sl : Nat} {t : Addr} {w : Value} {ad : Nat → Addr} {v_rn v_mg : Addr} {v_ra v_fa v_fk v_an v_at v_c1 v_c2 v_c3 v_i10 v_i11 v_i12 v_i20 v_i21 v_i22 v_i30 v_i31 v_i32 v_k0 v_k1 v_k2 : Int32} {v_nx v_l10 v_l11 v_l12 v_l20 v_l21 v_l22 v_l30 v_l31 v_l32 : Int64} (H : own_H Z h n0 ad v_rn v_mg v_ra v_fa v_fk v_an v_at v_nx v_c1 v_c2 v_c3 v_l10 v_l11 v_l12 v_l20 v_l21 v_l22 v_l30 v_l31 v_l32 v_i10 v_i11 v_i12 v_i20 v_i21 v_i22 v_i30 v_i31 v_i32 v_k0 v_k1 v_k2) (W : Wr h h' t sl w) (ho : ∀ i, i < 11 → ad i ≠ t) : own_H Z h' n0 ad v_rn v_mg v_ra v_fa v_fk v_an v_at v_nx v_c1 v_c2 v_c3 v_l10 v_l11 v_l12 v_l20 v_l21 v_l22 v_l30 v_l31 v_l32 v_i10 v_i11 v_i12 v_i20 v_i21 v_i22 v_i30 v_i31 v_i32 v_k0 v_k1 v_k2 := by
  obtain ⟨hinj, hge, E0, E1, E2, E3, r_run, r_merged, r_fresh, r_serverBits, r_freeBits, r_serverMask, r_mostFree, r_mostSpend, r_runAt, r_freshAt, r_freshKept, r_ranking, r_rankedAnew, r_at, r_next, u1_rank, u1_ranking, u1_count, u2_rank, u2_ranking, u2_count, u3_rank, u3_ranking, u3_count, a_l1, a_l2, a_l3, a_i1, a_i2, a_i3, a_k⟩ := H
  exact ⟨hinj, hge, E0.wr W, E1.wr W, E2.wr W, E3.wr W, r_run.other W (Or.inl (ho 0 (by decide))), r_merged.other W (Or.inl (ho 0 (by decide))), r_fresh.other W (Or.inl (ho 0 (by decide))), r_serverBits.other W (Or.inl (ho 0 (by decide))), r_freeBits.other W (Or.inl (ho 0 (by decide))), r_serverMask.other W (Or.inl (ho 0 (by decide))), r_mostFree.other W (Or.inl (ho 0 (by decide))), r_mostSpend.other W (Or.inl (ho 0 (by decide))), r_runAt.other W (Or.inl (ho 0 (by decide))), r_freshAt.other W (Or.inl (ho 0 (by decide))), r_freshKept.other W (Or.inl (ho 0 (by decide))), r_ranking.other W (Or.inl (ho 0 (by decide))), r_rankedAnew.other W (Or.inl (ho 0 (by decide))), r_at.other W (Or.inl (ho 0 (by decide))), r_next.other W (Or.inl (ho 0 (by decide))), u1_rank.other W (Or.inl (ho 1 (by decide))), u1_ranking.other W (Or.inl (ho 1 (by decide))), u1_count.other W (Or.inl (ho 1 (by decide))), u2_rank.other W (Or.inl (ho 2 (by decide))), u2_ranking.other W (Or.inl (ho 2 (by decide))), u2_count.other W (Or.inl (ho 2 (by decide))), u3_rank.other W (Or.inl (ho 3 (by decide))), u3_ranking.other W (Or.inl (ho 3 (by decide))), u3_count.other W (Or.inl (ho 3 (by decide))), a_l1.other W (ho 4 (by decide)), a_l2.other W (ho 5 (by decide)), a_l3.other W (ho 6 (by decide)), a_i1.other W (ho 7 (by decide)), a_i2.other W (ho 8 (by decide)), a_i3.other W (ho 9 (by decide)), a_k.other W (ho 10 (by decide))⟩
theorem own_pn25 : plainFor x = true := by first | exact plainFor_of_name (by first | (simp [plainName, overriddenIn, x]; done) | decide +kernel) | decide +kernel
theorem ef_0 (m : MethodId) (q0 : Int64) (q1 : Int64) (q2 : Int64) (q3 : Int32) : entryFrame m #[(.long q0), (.long q1), (.long q2), (.int q3)] maxLocals = mkF m 0 #[.val (.long q0), .second, .val (.long q1), .second, .val (.long q2), .second, .val (.int q3), .unset, .unset, .unset, .unset, .unset, .unset, .unset, .unset, .unset, .unset, .unset, .unset, .unset, .unset, .unset, .unset, .unset, .unset, .unset, .unset, .unset, .unset] [] := by first | (simp [entryFrame, mkF, argsToLocals, Value.category, maxLocals]; done) | rfl
theorem own_pd11 : parseMethodDescriptor "(JJI)V" = some ⟨[.long, .long, .int], none⟩ := by decide +kernel
theorem own_pd12 : parseMethodDescriptor "(JJJ)I" = some ⟨[.long, .long, .long], some .int⟩ := by decide +kernel
theorem own_pd13 : parseMethodDescriptor "()I" = some ⟨[], some .int⟩ := by decide +kernel
theorem own_pd14 : parseMethodDescriptor "()J" = some ⟨[], some .long⟩ := by decide +kernel
theorem own_pd15 : parseMethodDescriptor "()Z" = some ⟨[], some .boolean⟩ := by decide +kernel
set_option maxRecDepth 65536 in
set_option maxHeartbeats 40000000 in
theorem own_law (l : Launch) (Z : State) (a0 : Array Value) (hw : ∀ d ∈ tables_1, d.before a0 Z = true) (la lb lc : Int64) (mm : Int32) (h0 : Heap) (n0 : Nat) (Z0 : n0 ≤ h0.size) :
    Con l Z x code maxLocals ret tables_1 room_1 40 384 #[(.long la), (.long lb), (.long lc), (.int mm)] h0 (fun v h L => v = some (.int 1) ∧ Fr n0 L) := by
  refine Con.of own_pn25 ?_
  intro pg ev s_ m bl mt cd s₁ hx hby hml hown hnm hret hlk hZ X0 e0
  rw [ef_0]
  show Gd _ _ _ _ (s₁.setTop (mkF m 0 #[.val (.long la), .second, .val (.long lb), .second, .val (.long lc), .second, .val (.int mm), .unset, .unset, .unset, .unset, .unset, .unset, .unset, .unset, .unset, .unset, .unset, .unset, .unset, .unset, .unset, .unset, .unset, .unset, .unset, .unset, .unset, .unset] []))
  have N0 := Fr.nil n0
  refine Gd.go (fun _ w_k => XS.lloadN X0.here hx rfl (hb hby at_0) rfl (X0.ldc2Long hx hown (mvT hZ (ow hw 0 rfl)) (g := (mkF m 1 #[.val (.long la), .second, .val (.long lb), .second, .val (.long lc), .second, .val (.int mm), .unset, .unset, .unset, .unset, .unset, .unset, .unset, .unset, .unset, .unset, .unset, .unset, .unset, .unset, .unset, .unset, .unset, .unset, .unset, .unset, .unset, .unset] [(.long la)])) rfl (hb hby at_1) _ (XS.land X0.here hx rfl (hb hby at_4) rfl w_k))) ?_
  show Gd _ _ _ _ (s₁.setTop (mkF m 5 #[.val (.long la), .second, .val (.long lb), .second, .val (.long lc), .second, .val (.int mm), .unset, .unset, .unset, .unset, .unset, .unset, .unset, .unset, .unset, .unset, .unset, .unset, .unset, .unset, .unset, .unset, .unset, .unset, .unset, .unset, .unset, .unset] [(.long (la &&& (2147483647 : Int64)))]))
  obtain ⟨u0, g_u0, q_u0⟩ : ∃ q : Int64, (0 ≤ q.toInt ∧ q.toInt ≤ 2147483647) ∧ (la &&& (2147483647 : Int64)) = q := ⟨_, own_m31 _, rfl⟩
  rw [q_u0]
  show Gd _ _ _ _ (s₁.setTop (mkF m 5 #[.val (.long la), .second, .val (.long lb), .second, .val (.long lc), .second, .val (.int mm), .unset, .unset, .unset, .unset, .unset, .unset, .unset, .unset, .unset, .unset, .unset, .unset, .unset, .unset, .unset, .unset, .unset, .unset, .unset, .unset, .unset, .unset] [(.long u0)]))
  refine Gd.go (fun _ w_k => XS.lstore X0.here hx rfl (hb hby at_5) rfl (l' := #[.val (.long la), .second, .val (.long lb), .second, .val (.long lc), .second, .val (.int mm), .val (.long u0), .second, .unset, .unset, .unset, .unset, .unset, .unset, .unset, .unset, .unset, .unset, .unset, .unset, .unset, .unset, .unset, .unset, .unset, .unset, .unset, .unset]) rfl (XS.lloadN X0.here hx rfl (hb hby at_7) rfl (XS.bipush X0.here hx rfl (hb hby at_8) (XS.lushr X0.here hx rfl (hb hby at_10) rfl (X0.ldc2Long hx hown (mvT hZ (ow hw 1 rfl)) (g := (mkF m 11 #[.val (.long la), .second, .val (.long lb), .second, .val (.long lc), .second, .val (.int mm), .val (.long u0), .second, .unset, .unset, .unset, .unset, .unset, .unset, .unset, .unset, .unset, .unset, .unset, .unset, .unset, .unset, .unset, .unset, .unset, .unset, .unset, .unset] [(.long ((la.toUInt64 >>> ((32 : Int32) &&& 0x3f).toInt64.toUInt64).toInt64))])) rfl (hb hby at_11) _ (XS.land X0.here hx rfl (hb hby at_14) rfl w_k)))))) ?_
  show Gd _ _ _ _ (s₁.setTop (mkF m 15 #[.val (.long la), .second, .val (.long lb), .second, .val (.long lc), .second, .val (.int mm), .val (.long u0), .second, .unset, .unset, .unset, .unset, .unset, .unset, .unset, .unset, .unset, .unset, .unset, .unset, .unset, .unset, .unset, .unset, .unset, .unset, .unset, .unset] [(.long (((la.toUInt64 >>> ((32 : Int32) &&& 0x3f).toInt64.toUInt64).toInt64) &&& (1073741823 : Int64)))]))
  obtain ⟨f0, g_f0, q_f0⟩ : ∃ q : Int64, (0 ≤ q.toInt ∧ q.toInt ≤ 1073741823) ∧ (((la.toUInt64 >>> ((32 : Int32) &&& 0x3f).toInt64.toUInt64).toInt64) &&& (1073741823 : Int64)) = q := ⟨_, own_m30 _, rfl⟩
  rw [q_f0]
  show Gd _ _ _ _ (s₁.setTop (mkF m 15 #[.val (.long la), .second, .val (.long lb), .second, .val (.long lc), .second, .val (.int mm), .val (.long u0), .second, .unset, .unset, .unset, .unset, .unset, .unset, .unset, .unset, .unset, .unset, .unset, .unset, .unset, .unset, .unset, .unset, .unset, .unset, .unset, .unset] [(.long f0)]))
  refine Gd.go (fun _ w_k => XS.lstore X0.here hx rfl (hb hby at_15) rfl (l' := #[.val (.long la), .second, .val (.long lb), .second, .val (.long lc), .second, .val (.int mm), .val (.long u0), .second, .val (.long f0), .second, .unset, .unset, .unset, .unset, .unset, .unset, .unset, .unset, .unset, .unset, .unset, .unset, .unset, .unset, .unset, .unset, .unset, .unset]) rfl (XS.lloadN X0.here hx rfl (hb hby at_17) rfl (X0.ldc2Long hx hown (mvT hZ (ow hw 0 rfl)) (g := (mkF m 18 #[.val (.long la), .second, .val (.long lb), .second, .val (.long lc), .second, .val (.int mm), .val (.long u0), .second, .val (.long f0), .second, .unset, .unset, .unset, .unset, .unset, .unset, .unset, .unset, .unset, .unset, .unset, .unset, .unset, .unset, .unset, .unset, .unset, .unset] [(.long lb)])) rfl (hb hby at_18) _ (XS.land X0.here hx rfl (hb hby at_21) rfl w_k)))) ?_
  show Gd _ _ _ _ (s₁.setTop (mkF m 22 #[.val (.long la), .second, .val (.long lb), .second, .val (.long lc), .second, .val (.int mm), .val (.long u0), .second, .val (.long f0), .second, .unset, .unset, .unset, .unset, .unset, .unset, .unset, .unset, .unset, .unset, .unset, .unset, .unset, .unset, .unset, .unset, .unset, .unset] [(.long (lb &&& (2147483647 : Int64)))]))
  obtain ⟨u1, g_u1, q_u1⟩ : ∃ q : Int64, (0 ≤ q.toInt ∧ q.toInt ≤ 2147483647) ∧ (lb &&& (2147483647 : Int64)) = q := ⟨_, own_m31 _, rfl⟩
  rw [q_u1]
  show Gd _ _ _ _ (s₁.setTop (mkF m 22 #[.val (.long la), .second, .val (.long lb), .second, .val (.long lc), .second, .val (.int mm), .val (.long u0), .second, .val (.long f0), .second, .unset, .unset, .unset, .unset, .unset, .unset, .unset, .unset, .unset, .unset, .unset, .unset, .unset, .unset, .unset, .unset, .unset, .unset] [(.long u1)]))
  refine Gd.go (fun _ w_k => XS.lstore X0.here hx rfl (hb hby at_22) rfl (l' := #[.val (.long la), .second, .val (.long lb), .second, .val (.long lc), .second, .val (.int mm), .val (.long u0), .second, .val (.long f0), .second, .val (.long u1), .second, .unset, .unset, .unset, .unset, .unset, .unset, .unset, .unset, .unset, .unset, .unset, .unset, .unset, .unset, .unset, .unset]) rfl (XS.lloadN X0.here hx rfl (hb hby at_24) rfl (XS.bipush X0.here hx rfl (hb hby at_25) (XS.lushr X0.here hx rfl (hb hby at_27) rfl (X0.ldc2Long hx hown (mvT hZ (ow hw 1 rfl)) (g := (mkF m 28 #[.val (.long la), .second, .val (.long lb), .second, .val (.long lc), .second, .val (.int mm), .val (.long u0), .second, .val (.long f0), .second, .val (.long u1), .second, .unset, .unset, .unset, .unset, .unset, .unset, .unset, .unset, .unset, .unset, .unset, .unset, .unset, .unset, .unset, .unset] [(.long ((lb.toUInt64 >>> ((32 : Int32) &&& 0x3f).toInt64.toUInt64).toInt64))])) rfl (hb hby at_28) _ (XS.land X0.here hx rfl (hb hby at_31) rfl w_k)))))) ?_
  show Gd _ _ _ _ (s₁.setTop (mkF m 32 #[.val (.long la), .second, .val (.long lb), .second, .val (.long lc), .second, .val (.int mm), .val (.long u0), .second, .val (.long f0), .second, .val (.long u1), .second, .unset, .unset, .unset, .unset, .unset, .unset, .unset, .unset, .unset, .unset, .unset, .unset, .unset, .unset, .unset, .unset] [(.long (((lb.toUInt64 >>> ((32 : Int32) &&& 0x3f).toInt64.toUInt64).toInt64) &&& (1073741823 : Int64)))]))
  obtain ⟨f1, g_f1, q_f1⟩ : ∃ q : Int64, (0 ≤ q.toInt ∧ q.toInt ≤ 1073741823) ∧ (((lb.toUInt64 >>> ((32 : Int32) &&& 0x3f).toInt64.toUInt64).toInt64) &&& (1073741823 : Int64)) = q := ⟨_, own_m30 _, rfl⟩
  rw [q_f1]
  show Gd _ _ _ _ (s₁.setTop (mkF m 32 #[.val (.long la), .second, .val (.long lb), .second, .val (.long lc), .second, .val (.int mm), .val (.long u0), .second, .val (.long f0), .second, .val (.long u1), .second, .unset, .unset, .unset, .unset, .unset, .unset, .unset, .unset, .unset, .unset, .unset, .unset, .unset, .unset, .unset, .unset] [(.long f1)]))
  refine Gd.go (fun _ w_k => XS.lstore X0.here hx rfl (hb hby at_32) rfl (l' := #[.val (.long la), .second, .val (.long lb), .second, .val (.long lc), .second, .val (.int mm), .val (.long u0), .second, .val (.long f0), .second, .val (.long u1), .second, .val (.long f1), .second, .unset, .unset, .unset, .unset, .unset, .unset, .unset, .unset, .unset, .unset, .unset, .unset, .unset, .unset]) rfl (XS.lload X0.here hx rfl (hb hby at_34) rfl (X0.ldc2Long hx hown (mvT hZ (ow hw 0 rfl)) (g := (mkF m 36 #[.val (.long la), .second, .val (.long lb), .second, .val (.long lc), .second, .val (.int mm), .val (.long u0), .second, .val (.long f0), .second, .val (.long u1), .second, .val (.long f1), .second, .unset, .unset, .unset, .unset, .unset, .unset, .unset, .unset, .unset, .unset, .unset, .unset, .unset, .unset] [(.long lc)])) rfl (hb hby at_36) _ (XS.land X0.here hx rfl (hb hby at_39) rfl w_k)))) ?_
  show Gd _ _ _ _ (s₁.setTop (mkF m 40 #[.val (.long la), .second, .val (.long lb), .second, .val (.long lc), .second, .val (.int mm), .val (.long u0), .second, .val (.long f0), .second, .val (.long u1), .second, .val (.long f1), .second, .unset, .unset, .unset, .unset, .unset, .unset, .unset, .unset, .unset, .unset, .unset, .unset, .unset, .unset] [(.long (lc &&& (2147483647 : Int64)))]))
  obtain ⟨u2, g_u2, q_u2⟩ : ∃ q : Int64, (0 ≤ q.toInt ∧ q.toInt ≤ 2147483647) ∧ (lc &&& (2147483647 : Int64)) = q := ⟨_, own_m31 _, rfl⟩
  rw [q_u2]
  show Gd _ _ _ _ (s₁.setTop (mkF m 40 #[.val (.long la), .second, .val (.long lb), .second, .val (.long lc), .second, .val (.int mm), .val (.long u0), .second, .val (.long f0), .second, .val (.long u1), .second, .val (.long f1), .second, .unset, .unset, .unset, .unset, .unset, .unset, .unset, .unset, .unset, .unset, .unset, .unset, .unset, .unset] [(.long u2)]))
  refine Gd.go (fun _ w_k => XS.lstore X0.here hx rfl (hb hby at_40) rfl (l' := #[.val (.long la), .second, .val (.long lb), .second, .val (.long lc), .second, .val (.int mm), .val (.long u0), .second, .val (.long f0), .second, .val (.long u1), .second, .val (.long f1), .second, .val (.long u2), .second, .unset, .unset, .unset, .unset, .unset, .unset, .unset, .unset, .unset, .unset, .unset, .unset]) rfl (XS.lload X0.here hx rfl (hb hby at_42) rfl (XS.bipush X0.here hx rfl (hb hby at_44) (XS.lushr X0.here hx rfl (hb hby at_46) rfl (X0.ldc2Long hx hown (mvT hZ (ow hw 1 rfl)) (g := (mkF m 47 #[.val (.long la), .second, .val (.long lb), .second, .val (.long lc), .second, .val (.int mm), .val (.long u0), .second, .val (.long f0), .second, .val (.long u1), .second, .val (.long f1), .second, .val (.long u2), .second, .unset, .unset, .unset, .unset, .unset, .unset, .unset, .unset, .unset, .unset, .unset, .unset] [(.long ((lc.toUInt64 >>> ((32 : Int32) &&& 0x3f).toInt64.toUInt64).toInt64))])) rfl (hb hby at_47) _ (XS.land X0.here hx rfl (hb hby at_50) rfl w_k)))))) ?_
  show Gd _ _ _ _ (s₁.setTop (mkF m 51 #[.val (.long la), .second, .val (.long lb), .second, .val (.long lc), .second, .val (.int mm), .val (.long u0), .second, .val (.long f0), .second, .val (.long u1), .second, .val (.long f1), .second, .val (.long u2), .second, .unset, .unset, .unset, .unset, .unset, .unset, .unset, .unset, .unset, .unset, .unset, .unset] [(.long (((lc.toUInt64 >>> ((32 : Int32) &&& 0x3f).toInt64.toUInt64).toInt64) &&& (1073741823 : Int64)))]))
  obtain ⟨f2, g_f2, q_f2⟩ : ∃ q : Int64, (0 ≤ q.toInt ∧ q.toInt ≤ 1073741823) ∧ (((lc.toUInt64 >>> ((32 : Int32) &&& 0x3f).toInt64.toUInt64).toInt64) &&& (1073741823 : Int64)) = q := ⟨_, own_m30 _, rfl⟩
  rw [q_f2]
  show Gd _ _ _ _ (s₁.setTop (mkF m 51 #[.val (.long la), .second, .val (.long lb), .second, .val (.long lc), .second, .val (.int mm), .val (.long u0), .second, .val (.long f0), .second, .val (.long u1), .second, .val (.long f1), .second, .val (.long u2), .second, .unset, .unset, .unset, .unset, .unset, .unset, .unset, .unset, .unset, .unset, .unset, .unset] [(.long f2)]))
  refine Gd.go (fun _ w_k => XS.lstore X0.here hx rfl (hb hby at_51) rfl (l' := #[.val (.long la), .second, .val (.long lb), .second, .val (.long lc), .second, .val (.int mm), .val (.long u0), .second, .val (.long f0), .second, .val (.long u1), .second, .val (.long f1), .second, .val (.long u2), .second, .val (.long f2), .second, .unset, .unset, .unset, .unset, .unset, .unset, .unset, .unset, .unset, .unset]) rfl w_k) ?_
  show Gd _ _ _ _ (s₁.setTop (mkF m 53 #[.val (.long la), .second, .val (.long lb), .second, .val (.long lc), .second, .val (.int mm), .val (.long u0), .second, .val (.long f0), .second, .val (.long u1), .second, .val (.long f1), .second, .val (.long u2), .second, .val (.long f2), .second, .unset, .unset, .unset, .unset, .unset, .unset, .unset, .unset, .unset, .unset] []))
  obtain ⟨T1, h1, X1, e1, E1, A1, D1, -, st1⟩ := newO X0 hx hZ hown (ow hw 2 rfl) (ow hw 3 rfl) (ow hw 4 rfl) e0 (g := (mkF m 53 #[.val (.long la), .second, .val (.long lb), .second, .val (.long lc), .second, .val (.int mm), .val (.long u0), .second, .val (.long f0), .second, .val (.long u1), .second, .val (.long f1), .second, .val (.long u2), .second, .val (.long f2), .second, .unset, .unset, .unset, .unset, .unset, .unset, .unset, .unset, .unset, .unset] [])) rfl (hb hby at_53) (by decide) (by decide)
  obtain ⟨b1, g1⟩ : ∃ z, z = h0.size := ⟨_, rfl⟩
  rw [← g1] at A1 D1 st1
  have n0_b1 : n0 ≤ b1 := Nat.le_trans Z0 (Nat.le_of_eq g1.symm)
  have xZs2 := Nat.le_trans Z0 E1.1
  have xF3 : Fld Z h1 b1 "com/example/nearfield/nearfield/job/RankedReads" "run" "Lcom/example/nearfield/nearfield/job/RankedReads$Run;" .null := D1 (Or.inl (ow hw 25 rfl)) (ty := (.object "com/example/nearfield/nearfield/job/RankedReads$Run")) (by decide)
  have xF4 : Fld Z h1 b1 "com/example/nearfield/nearfield/job/RankedReads" "merged" "Lcom/example/nearfield/nearfield/job/RankedReads$Run;" .null := D1 (Or.inl (ow hw 27 rfl)) (ty := (.object "com/example/nearfield/nearfield/job/RankedReads$Run")) (by decide)
  have xF5 : Fld Z h1 b1 "com/example/nearfield/nearfield/job/RankedReads" "fresh" "Lcom/example/nearfield/nearfield/job/RankedReads$Run;" .null := D1 (Or.inr (ow hw 29 rfl)) (ty := (.object "com/example/nearfield/nearfield/job/RankedReads$Run")) (by decide)
  have xF6 : Fld Z h1 b1 "com/example/nearfield/nearfield/job/RankedReads" "serverBits" "I" (.int (0 : Int32)) := D1 (Or.inr (ow hw 40 rfl)) (ty := .int) (by decide)
  have xF7 : Fld Z h1 b1 "com/example/nearfield/nearfield/job/RankedReads" "freeBits" "I" (.int (0 : Int32)) := D1 (Or.inr (ow hw 42 rfl)) (ty := .int) (by decide)
  have xF8 : Fld Z h1 b1 "com/example/nearfield/nearfield/job/RankedReads" "serverMask" "J" (.long (0 : Int64)) := D1 (Or.inr (ow hw 44 rfl)) (ty := .long) (by decide)
  have xF9 : Fld Z h1 b1 "com/example/nearfield/nearfield/job/RankedReads" "mostFree" "J" (.long (0 : Int64)) := D1 (Or.inr (ow hw 46 rfl)) (ty := .long) (by decide)
  have xF10 : Fld Z h1 b1 "com/example/nearfield/nearfield/job/RankedReads" "mostSpend" "J" (.long (0 : Int64)) := D1 (Or.inr (ow hw 48 rfl)) (ty := .long) (by decide)
  have xF11 : Fld Z h1 b1 "com/example/nearfield/nearfield/job/RankedReads" "ranking" "[I" .null := D1 (Or.inr (ow hw 50 rfl)) (ty := (.array .int)) (by decide)
  have xF12 : Fld Z h1 b1 "com/example/nearfield/nearfield/job/RankedReads" "freshKept" "I" (.int (0 : Int32)) := D1 (Or.inl (ow hw 80 rfl)) (ty := .int) (by decide)
  have xF13 : Fld Z h1 b1 "com/example/nearfield/nearfield/job/RankedReads" "freshAt" "I" (.int (0 : Int32)) := D1 (Or.inl (ow hw 82 rfl)) (ty := .int) (by decide)
  have xF14 : Fld Z h1 b1 "com/example/nearfield/nearfield/job/RankedReads" "runAt" "I" (.int (0 : Int32)) := D1 (Or.inl (ow hw 117 rfl)) (ty := .int) (by decide)
  have xF15 : Fld Z h1 b1 "com/example/nearfield/nearfield/job/RankedReads" "rankedAnew" "Z" (.int (0 : Int32)) := D1 (Or.inl (ow hw 123 rfl)) (ty := .boolean) (by decide)
  have xF16 : Fld Z h1 b1 "com/example/nearfield/nearfield/job/RankedReads" "at" "I" (.int (0 : Int32)) := D1 (Or.inl (ow hw 125 rfl)) (ty := .int) (by decide)
  have xF17 : Fld Z h1 b1 "com/example/nearfield/nearfield/job/RankedReads" "next" "J" (.long (0 : Int64)) := D1 (Or.inl (ow hw 132 rfl)) (ty := .long) (by decide)
  refine Gd.go (fun _ w_k => st1 _ (XS.dup X1.here hx rfl (hb hby at_56) rfl rfl (XS.iconst X1.here hx rfl (hb hby at_57) w_k))) ?_
  show Gd _ _ _ _ (T1.setTop (mkF m 58 #[.val (.long la), .second, .val (.long lb), .second, .val (.long lc), .second, .val (.int mm), .val (.long u0), .second, .val (.long f0), .second, .val (.long u1), .second, .val (.long f1), .second, .val (.long u2), .second, .val (.long f2), .second, .unset, .unset, .unset, .unset, .unset, .unset, .unset, .unset, .unset, .unset] [(.int (3 : Int32)), (.ref b1), (.ref b1)]))
  obtain ⟨v18, T18, L18, X18, hQ18, st18⟩ := own_callI X1 hx hZ (y := (⟨"com/example/nearfield/nearfield/job/RankedReads", "<init>", "(I)V"⟩ : MethodName)) rfl hown (ow hw 5 rfl) (ow hw 6 rfl) (ow hw 4 rfl) (ow hw 7 rfl) (by decide) (b := b1) (W := 1) (own_c1 l Z a0 hw b1 h1 n0 xZs2 n0_b1 A1 xF3 xF4 xF5 xF6 xF7 xF8 xF9 xF10 xF14 xF13 xF12 xF11 xF15 xF16 xF17) rfl rfl e1 (by decide) (by decide) (g := (mkF m 58 #[.val (.long la), .second, .val (.long lb), .second, .val (.long lc), .second, .val (.int mm), .val (.long u0), .second, .val (.long f0), .second, .val (.long u1), .second, .val (.long f1), .second, .val (.long u2), .second, .val (.long f2), .second, .unset, .unset, .unset, .unset, .unset, .unset, .unset, .unset, .unset, .unset] [(.int (3 : Int32)), (.ref b1), (.ref b1)])) rfl (by rw [hml]; rfl) (argsL := [(.int (3 : Int32))]) (rest := [(.ref b1)]) (lenOf own_pd8 rfl) rfl (Nat.le_of_eq rfl) (hb hby at_58) rfl (by decide) (by decide)
  obtain ⟨rfl, ⟨ad, had, H1⟩, N1⟩ := hQ18
  refine Gd.go (fun _ w_k => st18 _ w_k) ?_
  show Gd _ _ _ _ (T18.setTop (mkF m 61 #[.val (.long la), .second, .val (.long lb), .second, .val (.long lc), .second, .val (.int mm), .val (.long u0), .second, .val (.long f0), .second, .val (.long u1), .second, .val (.long f1), .second, .val (.long u2), .second, .val (.long f2), .second, .unset, .unset, .unset, .unset, .unset, .unset, .unset, .unset, .unset, .unset] [(.ref b1)]))
  have xN19 := Fr.app N0 N1
  subst had
  show Gd _ _ _ _ (T18.setTop (mkF m 61 #[.val (.long la), .second, .val (.long lb), .second, .val (.long lc), .second, .val (.int mm), .val (.long u0), .second, .val (.long f0), .second, .val (.long u1), .second, .val (.long f1), .second, .val (.long u2), .second, .val (.long f2), .second, .unset, .unset, .unset, .unset, .unset, .unset, .unset, .unset, .unset, .unset] [(.ref (ad 0))]))
  refine Gd.go (fun _ w_k => XS.astore X18.here hx rfl (hb hby at_61) rfl rfl (l' := #[.val (.long la), .second, .val (.long lb), .second, .val (.long lc), .second, .val (.int mm), .val (.long u0), .second, .val (.long f0), .second, .val (.long u1), .second, .val (.long f1), .second, .val (.long u2), .second, .val (.long f2), .second, .val (.ref (ad 0)), .unset, .unset, .unset, .unset, .unset, .unset, .unset, .unset, .unset]) rfl (XS.aload X18.here hx rfl (hb hby at_63) rfl rfl (XS.lload X18.here hx rfl (hb hby at_65) rfl (XS.lload X18.here hx rfl (hb hby at_67) rfl (XS.iconst X18.here hx rfl (hb hby at_69) w_k))))) ?_
  show Gd _ _ _ _ (T18.setTop (mkF m 70 #[.val (.long la), .second, .val (.long lb), .second, .val (.long lc), .second, .val (.int mm), .val (.long u0), .second, .val (.long f0), .second, .val (.long u1), .second, .val (.long f1), .second, .val (.long u2), .second, .val (.long f2), .second, .val (.ref (ad 0)), .unset, .unset, .unset, .unset, .unset, .unset, .unset, .unset, .unset] [(.int (0 : Int32)), (.long f0), (.long u0), (.ref (ad 0))]))
  obtain ⟨v20, T20, L20, X20, hQ20, st20⟩ := own_callV X18 hx hZ (C := "com/example/nearfield/nearfield/job/RankedReads") (y := (⟨"com/example/nearfield/nearfield/job/RankedReads", "rank", "(JJI)V"⟩ : MethodName)) hown (ow hw 51 rfl) (ow hw 52 rfl) (ow hw 54 rfl) (ow hw 53 rfl) (ow hw 4 rfl) (ow hw 55 rfl) (by decide) H1.2.2.1 (W := 0) (own_c6_0 l Z a0 hw T18.heap n0 ad (ad 1) (ad 2) (0 : Int32) (0 : Int32) (0 : Int32) (0 : Int32) (0 : Int32) (0 : Int64) (0 : Int32) (0 : Int32) (0 : Int64) (0 : Int64) (0 : Int64) (0 : Int64) (0 : Int64) (0 : Int64) (0 : Int64) (0 : Int64) (0 : Int64) (0 : Int32) (0 : Int32) (0 : Int32) (0 : Int32) (0 : Int32) (0 : Int32) (0 : Int32) (0 : Int32) (0 : Int32) (0 : Int32) (0 : Int32) (0 : Int32) H1 u0 f0 g_u0 g_f0) rfl rfl rfl (by decide) (by decide) (g := (mkF m 70 #[.val (.long la), .second, .val (.long lb), .second, .val (.long lc), .second, .val (.int mm), .val (.long u0), .second, .val (.long f0), .second, .val (.long u1), .second, .val (.long f1), .second, .val (.long u2), .second, .val (.long f2), .second, .val (.ref (ad 0)), .unset, .unset, .unset, .unset, .unset, .unset, .unset, .unset, .unset] [(.int (0 : Int32)), (.long f0), (.long u0), (.ref (ad 0))])) rfl (by rw [hml]; rfl) (argsL := [(.long u0), (.long f0), (.int (0 : Int32))]) (rest := []) (lenOf own_pd11 rfl) rfl (Nat.le_of_eq rfl) (hb hby at_70) rfl (by decide) (by decide)
  obtain ⟨rfl, Hr0, Nr0⟩ := hQ20
  refine Gd.go (fun _ w_k => st20 _ w_k) ?_
  show Gd _ _ _ _ (T20.setTop (mkF m 73 #[.val (.long la), .second, .val (.long lb), .second, .val (.long lc), .second, .val (.int mm), .val (.long u0), .second, .val (.long f0), .second, .val (.long u1), .second, .val (.long f1), .second, .val (.long u2), .second, .val (.long f2), .second, .val (.ref (ad 0)), .unset, .unset, .unset, .unset, .unset, .unset, .unset, .unset, .unset] []))
  have xN21 := Fr.app xN19 Nr0
  refine Gd.go (fun _ w_k => XS.aload X20.here hx rfl (hb hby at_73) rfl rfl (XS.lload X20.here hx rfl (hb hby at_75) rfl (XS.lload X20.here hx rfl (hb hby at_77) rfl (XS.iconst X20.here hx rfl (hb hby at_79) w_k)))) ?_
  show Gd _ _ _ _ (T20.setTop (mkF m 80 #[.val (.long la), .second, .val (.long lb), .second, .val (.long lc), .second, .val (.int mm), .val (.long u0), .second, .val (.long f0), .second, .val (.long u1), .second, .val (.long f1), .second, .val (.long u2), .second, .val (.long f2), .second, .val (.ref (ad 0)), .unset, .unset, .unset, .unset, .unset, .unset, .unset, .unset, .unset] [(.int (1 : Int32)), (.long f1), (.long u1), (.ref (ad 0))]))
  obtain ⟨v22, T22, L22, X22, hQ22, st22⟩ := own_callV X20 hx hZ (C := "com/example/nearfield/nearfield/job/RankedReads") (y := (⟨"com/example/nearfield/nearfield/job/RankedReads", "rank", "(JJI)V"⟩ : MethodName)) hown (ow hw 51 rfl) (ow hw 52 rfl) (ow hw 54 rfl) (ow hw 53 rfl) (ow hw 4 rfl) (ow hw 55 rfl) (by decide) Hr0.2.2.1 (W := 0) (own_c6_1 l Z a0 hw T20.heap n0 ad (ad 1) (ad 2) (0 : Int32) (0 : Int32) (0 : Int32) (0 : Int32) (0 : Int32) (0 : Int64) (0 : Int32) (0 : Int32) (0 : Int64) (0 : Int64) (0 : Int64) (0 : Int64) (0 : Int64) (0 : Int64) (own_q u0 f0 (0 : Int64)) (0 : Int64) (0 : Int64) (0 : Int32) (0 : Int32) (0 : Int32) (0 : Int32) (0 : Int32) (0 : Int32) (0 : Int32) (0 : Int32) (0 : Int32) (0 : Int32) (0 : Int32) (0 : Int32) Hr0 u1 f1 g_u1 g_f1) rfl rfl rfl (by decide) (by decide) (g := (mkF m 80 #[.val (.long la), .second, .val (.long lb), .second, .val (.long lc), .second, .val (.int mm), .val (.long u0), .second, .val (.long f0), .second, .val (.long u1), .second, .val (.long f1), .second, .val (.long u2), .second, .val (.long f2), .second, .val (.ref (ad 0)), .unset, .unset, .unset, .unset, .unset, .unset, .unset, .unset, .unset] [(.int (1 : Int32)), (.long f1), (.long u1), (.ref (ad 0))])) rfl (by rw [hml]; rfl) (argsL := [(.long u1), (.long f1), (.int (1 : Int32))]) (rest := []) (lenOf own_pd11 rfl) rfl (Nat.le_of_eq rfl) (hb hby at_80) rfl (by decide) (by decide)
  obtain ⟨rfl, Hr1, Nr1⟩ := hQ22
  refine Gd.go (fun _ w_k => st22 _ w_k) ?_
  show Gd _ _ _ _ (T22.setTop (mkF m 83 #[.val (.long la), .second, .val (.long lb), .second, .val (.long lc), .second, .val (.int mm), .val (.long u0), .second, .val (.long f0), .second, .val (.long u1), .second, .val (.long f1), .second, .val (.long u2), .second, .val (.long f2), .second, .val (.ref (ad 0)), .unset, .unset, .unset, .unset, .unset, .unset, .unset, .unset, .unset] []))
  have xN23 := Fr.app xN21 Nr1
  refine Gd.go (fun _ w_k => XS.aload X22.here hx rfl (hb hby at_83) rfl rfl (XS.lload X22.here hx rfl (hb hby at_85) rfl (XS.lload X22.here hx rfl (hb hby at_87) rfl (XS.iconst X22.here hx rfl (hb hby at_89) w_k)))) ?_
  show Gd _ _ _ _ (T22.setTop (mkF m 90 #[.val (.long la), .second, .val (.long lb), .second, .val (.long lc), .second, .val (.int mm), .val (.long u0), .second, .val (.long f0), .second, .val (.long u1), .second, .val (.long f1), .second, .val (.long u2), .second, .val (.long f2), .second, .val (.ref (ad 0)), .unset, .unset, .unset, .unset, .unset, .unset, .unset, .unset, .unset] [(.int (2 : Int32)), (.long f2), (.long u2), (.ref (ad 0))]))
  obtain ⟨v24, T24, L24, X24, hQ24, st24⟩ := own_callV X22 hx hZ (C := "com/example/nearfield/nearfield/job/RankedReads") (y := (⟨"com/example/nearfield/nearfield/job/RankedReads", "rank", "(JJI)V"⟩ : MethodName)) hown (ow hw 51 rfl) (ow hw 52 rfl) (ow hw 54 rfl) (ow hw 53 rfl) (ow hw 4 rfl) (ow hw 55 rfl) (by decide) Hr1.2.2.1 (W := 0) (own_c6_2 l Z a0 hw T22.heap n0 ad (ad 1) (ad 2) (0 : Int32) (0 : Int32) (0 : Int32) (0 : Int32) (0 : Int32) (0 : Int64) (0 : Int32) (0 : Int32) (0 : Int64) (0 : Int64) (0 : Int64) (0 : Int64) (0 : Int64) (0 : Int64) (own_q u0 f0 (0 : Int64)) (own_q u1 f1 (1 : Int64)) (0 : Int64) (0 : Int32) (0 : Int32) (0 : Int32) (0 : Int32) (0 : Int32) (0 : Int32) (0 : Int32) (0 : Int32) (0 : Int32) (0 : Int32) (0 : Int32) (0 : Int32) Hr1 u2 f2 g_u2 g_f2) rfl rfl rfl (by decide) (by decide) (g := (mkF m 90 #[.val (.long la), .second, .val (.long lb), .second, .val (.long lc), .second, .val (.int mm), .val (.long u0), .second, .val (.long f0), .second, .val (.long u1), .second, .val (.long f1), .second, .val (.long u2), .second, .val (.long f2), .second, .val (.ref (ad 0)), .unset, .unset, .unset, .unset, .unset, .unset, .unset, .unset, .unset] [(.int (2 : Int32)), (.long f2), (.long u2), (.ref (ad 0))])) rfl (by rw [hml]; rfl) (argsL := [(.long u2), (.long f2), (.int (2 : Int32))]) (rest := []) (lenOf own_pd11 rfl) rfl (Nat.le_of_eq rfl) (hb hby at_90) rfl (by decide) (by decide)
  obtain ⟨rfl, Hr2, Nr2⟩ := hQ24
  refine Gd.go (fun _ w_k => st24 _ w_k) ?_
  show Gd _ _ _ _ (T24.setTop (mkF m 93 #[.val (.long la), .second, .val (.long lb), .second, .val (.long lc), .second, .val (.int mm), .val (.long u0), .second, .val (.long f0), .second, .val (.long u1), .second, .val (.long f1), .second, .val (.long u2), .second, .val (.long f2), .second, .val (.ref (ad 0)), .unset, .unset, .unset, .unset, .unset, .unset, .unset, .unset, .unset] []))
  have xN25 := Fr.app xN23 Nr2
  refine Gd.go (fun _ w_k => XS.aload X24.here hx rfl (hb hby at_93) rfl rfl w_k) ?_
  show Gd _ _ _ _ (T24.setTop (mkF m 95 #[.val (.long la), .second, .val (.long lb), .second, .val (.long lc), .second, .val (.int mm), .val (.long u0), .second, .val (.long f0), .second, .val (.long u1), .second, .val (.long f1), .second, .val (.long u2), .second, .val (.long f2), .second, .val (.ref (ad 0)), .unset, .unset, .unset, .unset, .unset, .unset, .unset, .unset, .unset] [(.ref (ad 0))]))
  have hX0 : (((own_q u0 f0 (0 : Int64)) &&& (3 : Int64)).toInt32) = (0 : Int32) := by rw [own_qx u0 f0 (0 : Int64) (by decide)]; decide
  have hX1 : (((own_q u1 f1 (1 : Int64)) &&& (3 : Int64)).toInt32) = (1 : Int32) := by rw [own_qx u1 f1 (1 : Int64) (by decide)]; decide
  have hX2 : (((own_q u2 f2 (2 : Int64)) &&& (3 : Int64)).toInt32) = (2 : Int32) := by rw [own_qx u2 f2 (2 : Int64) (by decide)]; decide
  obtain ⟨v26, T26, L26, X26, hQ26, st26⟩ := own_callV X24 hx hZ (C := "com/example/nearfield/nearfield/job/RankedReads") (y := (⟨"com/example/nearfield/nearfield/job/RankedReads", "order", "()V"⟩ : MethodName)) hown (ow hw 73 rfl) (ow hw 74 rfl) (ow hw 76 rfl) (ow hw 75 rfl) (ow hw 4 rfl) (ow hw 77 rfl) (by decide) Hr2.2.2.1 (W := 0) (own_c10 l Z a0 hw T24.heap n0 ad (0 : Int32) (0 : Int32) (0 : Int32) (0 : Int32) (0 : Int64) (0 : Int32) (0 : Int64) (0 : Int64) (0 : Int64) (0 : Int64) (0 : Int64) (0 : Int64) (own_q u0 f0 (0 : Int64)) (own_q u1 f1 (1 : Int64)) (own_q u2 f2 (2 : Int64)) (0 : Int32) (0 : Int32) (0 : Int32) (0 : Int32) (0 : Int32) (0 : Int32) hX0 hX1 hX2 Hr2) rfl rfl rfl (by decide) (by decide) (g := (mkF m 95 #[.val (.long la), .second, .val (.long lb), .second, .val (.long lc), .second, .val (.int mm), .val (.long u0), .second, .val (.long f0), .second, .val (.long u1), .second, .val (.long f1), .second, .val (.long u2), .second, .val (.long f2), .second, .val (.ref (ad 0)), .unset, .unset, .unset, .unset, .unset, .unset, .unset, .unset, .unset] [(.ref (ad 0))])) rfl (by rw [hml]; rfl) (argsL := []) (rest := []) (lenOf own_pd7 rfl) rfl (Nat.le_of_eq rfl) (hb hby at_95) rfl (by decide) (by decide)
  obtain ⟨rfl, ⟨sa, sb, sc, hs, Ho⟩, No⟩ := hQ26
  refine Gd.go (fun _ w_k => st26 _ w_k) ?_
  show Gd _ _ _ _ (T26.setTop (mkF m 98 #[.val (.long la), .second, .val (.long lb), .second, .val (.long lc), .second, .val (.int mm), .val (.long u0), .second, .val (.long f0), .second, .val (.long u1), .second, .val (.long f1), .second, .val (.long u2), .second, .val (.long f2), .second, .val (.ref (ad 0)), .unset, .unset, .unset, .unset, .unset, .unset, .unset, .unset, .unset] []))
  have xN27 := Fr.app xN25 No
  have Zh := Nat.le_of_lt (Nat.lt_of_le_of_lt (Ho.2.1 0 (by decide)) (own_H.lt Ho 0 (by decide)))
  refine Gd.go (fun _ w_k => XS.iconst X26.here hx rfl (hb hby at_98) w_k) ?_
  show Gd _ _ _ _ (T26.setTop (mkF m 99 #[.val (.long la), .second, .val (.long lb), .second, .val (.long lc), .second, .val (.int mm), .val (.long u0), .second, .val (.long f0), .second, .val (.long u1), .second, .val (.long f1), .second, .val (.long u2), .second, .val (.long f2), .second, .val (.ref (ad 0)), .unset, .unset, .unset, .unset, .unset, .unset, .unset, .unset, .unset] [(.int (3 : Int32))]))
  obtain ⟨T28, h28, k28, X28, e28, E28, A28, st28⟩ := newP X26 hx hZ (ow hw 18 rfl) rfl (g := (mkF m 99 #[.val (.long la), .second, .val (.long lb), .second, .val (.long lc), .second, .val (.int mm), .val (.long u0), .second, .val (.long f0), .second, .val (.long u1), .second, .val (.long f1), .second, .val (.long u2), .second, .val (.long f2), .second, .val (.ref (ad 0)), .unset, .unset, .unset, .unset, .unset, .unset, .unset, .unset, .unset] [(.int (3 : Int32))])) rfl (hb hby at_99) rfl (by decide) (cap := 3) (by decide) (by decide) (by decide) (by decide)
  obtain ⟨b28, g28⟩ : ∃ z, z = T26.heap.size := ⟨_, rfl⟩
  rw [← g28] at A28 st28
  have ne__ad_0__b28 : (ad 0) ≠ b28 := fun q => Nat.lt_irrefl _ (Nat.lt_of_lt_of_le Ho.2.2.1.lt (Nat.le_of_eq (q.trans g28).symm))
  have ne__ad_1__b28 : (ad 1) ≠ b28 := fun q => Nat.lt_irrefl _ (Nat.lt_of_lt_of_le Ho.2.2.2.1.lt (Nat.le_of_eq (q.trans g28).symm))
  have ne__ad_2__b28 : (ad 2) ≠ b28 := fun q => Nat.lt_irrefl _ (Nat.lt_of_lt_of_le Ho.2.2.2.2.1.lt (Nat.le_of_eq (q.trans g28).symm))
  have ne__ad_3__b28 : (ad 3) ≠ b28 := fun q => Nat.lt_irrefl _ (Nat.lt_of_lt_of_le Ho.2.2.2.2.2.1.lt (Nat.le_of_eq (q.trans g28).symm))
  have ne__ad_4__b28 : (ad 4) ≠ b28 := fun q => Nat.lt_irrefl _ (Nat.lt_of_lt_of_le Ho.2.2.2.2.2.2.2.2.2.2.2.2.2.2.2.2.2.2.2.2.2.2.2.2.2.2.2.2.2.2.1.lt (Nat.le_of_eq (q.trans g28).symm))
  have ne__ad_7__b28 : (ad 7) ≠ b28 := fun q => Nat.lt_irrefl _ (Nat.lt_of_lt_of_le Ho.2.2.2.2.2.2.2.2.2.2.2.2.2.2.2.2.2.2.2.2.2.2.2.2.2.2.2.2.2.2.2.2.2.1.lt (Nat.le_of_eq (q.trans g28).symm))
  have ne__ad_5__b28 : (ad 5) ≠ b28 := fun q => Nat.lt_irrefl _ (Nat.lt_of_lt_of_le Ho.2.2.2.2.2.2.2.2.2.2.2.2.2.2.2.2.2.2.2.2.2.2.2.2.2.2.2.2.2.2.2.1.lt (Nat.le_of_eq (q.trans g28).symm))
  have ne__ad_8__b28 : (ad 8) ≠ b28 := fun q => Nat.lt_irrefl _ (Nat.lt_of_lt_of_le Ho.2.2.2.2.2.2.2.2.2.2.2.2.2.2.2.2.2.2.2.2.2.2.2.2.2.2.2.2.2.2.2.2.2.2.1.lt (Nat.le_of_eq (q.trans g28).symm))
  have ne__ad_6__b28 : (ad 6) ≠ b28 := fun q => Nat.lt_irrefl _ (Nat.lt_of_lt_of_le Ho.2.2.2.2.2.2.2.2.2.2.2.2.2.2.2.2.2.2.2.2.2.2.2.2.2.2.2.2.2.2.2.2.1.lt (Nat.le_of_eq (q.trans g28).symm))
  have ne__ad_9__b28 : (ad 9) ≠ b28 := fun q => Nat.lt_irrefl _ (Nat.lt_of_lt_of_le Ho.2.2.2.2.2.2.2.2.2.2.2.2.2.2.2.2.2.2.2.2.2.2.2.2.2.2.2.2.2.2.2.2.2.2.2.1.lt (Nat.le_of_eq (q.trans g28).symm))
  have ne__ad_10__b28 : (ad 10) ≠ b28 := fun q => Nat.lt_irrefl _ (Nat.lt_of_lt_of_le Ho.2.2.2.2.2.2.2.2.2.2.2.2.2.2.2.2.2.2.2.2.2.2.2.2.2.2.2.2.2.2.2.2.2.2.2.2.lt (Nat.le_of_eq (q.trans g28).symm))
  have n0_b28 : n0 ≤ b28 := Nat.le_trans Zh (Nat.le_of_eq g28.symm)
  have H29 := own_H.ext Ho E28
  have xZs30 := Nat.le_trans Zh E28.1
  have xF31 : ArF Z h28 b28 .long 3 (fun _ => (.long (0 : Int64))) := own_new (h := T26.heap) A28 (by decide)
  refine Gd.go (fun _ w_k => st28 _ w_k) ?_
  show Gd _ _ _ _ (T28.setTop (mkF m 101 #[.val (.long la), .second, .val (.long lb), .second, .val (.long lc), .second, .val (.int mm), .val (.long u0), .second, .val (.long f0), .second, .val (.long u1), .second, .val (.long f1), .second, .val (.long u2), .second, .val (.long f2), .second, .val (.ref (ad 0)), .unset, .unset, .unset, .unset, .unset, .unset, .unset, .unset, .unset] [(.ref b28)]))
  have lt_q : ∀ i, i < 11 → ad i ≠ b28 := fun i hi => Nat.ne_of_lt (Nat.lt_of_lt_of_le (own_H.lt Ho i hi) (Nat.le_of_eq g28.symm))
  have aq0 : ArF Z h28 b28 .long 3 (own_J 0 0 0) := xF31.congr (fun i _ => by simp [own_J])
  refine Gd.go (fun _ w_k => XS.astore X28.here hx rfl (hb hby at_101) rfl rfl (l' := #[.val (.long la), .second, .val (.long lb), .second, .val (.long lc), .second, .val (.int mm), .val (.long u0), .second, .val (.long f0), .second, .val (.long u1), .second, .val (.long f1), .second, .val (.long u2), .second, .val (.long f2), .second, .val (.ref (ad 0)), .val (.ref b28), .unset, .unset, .unset, .unset, .unset, .unset, .unset, .unset]) rfl (XS.aload X28.here hx rfl (hb hby at_103) rfl rfl (XS.iconst X28.here hx rfl (hb hby at_105) (XS.lload X28.here hx rfl (hb hby at_106) rfl (XS.lload X28.here hx rfl (hb hby at_108) rfl (XS.iconst X28.here hx rfl (hb hby at_110) w_k)))))) ?_
  show Gd _ _ _ _ (T28.setTop (mkF m 111 #[.val (.long la), .second, .val (.long lb), .second, .val (.long lc), .second, .val (.int mm), .val (.long u0), .second, .val (.long f0), .second, .val (.long u1), .second, .val (.long f1), .second, .val (.long u2), .second, .val (.long f2), .second, .val (.ref (ad 0)), .val (.ref b28), .unset, .unset, .unset, .unset, .unset, .unset, .unset, .unset] [(.int (0 : Int32)), (.long f0), (.long u0), (.int (0 : Int32)), (.ref b28)]))
  obtain ⟨T32, X32, e32, st32⟩ := own_callSP X28 hx hZ (y := (⟨"com/example/nearfield/nearfield/job/RankedReadsNextPinLaw", "pk", "(JJI)J"⟩ : MethodName)) hown (ow hw 133 rfl) (ow hw 134 rfl) (ow hw 135 rfl) (ow hw 136 rfl) (by decide) (W := 2) (own_c21_0 l Z a0 hw u0 f0 h28) rfl rfl e28 (by decide) (by decide) (g := (mkF m 111 #[.val (.long la), .second, .val (.long lb), .second, .val (.long lc), .second, .val (.int mm), .val (.long u0), .second, .val (.long f0), .second, .val (.long u1), .second, .val (.long f1), .second, .val (.long u2), .second, .val (.long f2), .second, .val (.ref (ad 0)), .val (.ref b28), .unset, .unset, .unset, .unset, .unset, .unset, .unset, .unset] [(.int (0 : Int32)), (.long f0), (.long u0), (.int (0 : Int32)), (.ref b28)])) rfl (by rw [hml]; rfl) (argsL := [(.long u0), (.long f0), (.int (0 : Int32))]) (rest := [(.int (0 : Int32)), (.ref b28)]) (lenOf own_pd1 rfl) rfl (Nat.le_of_eq rfl) (hb hby at_111) rfl
  refine Gd.go (fun _ w_k => st32 _ w_k) ?_
  show Gd _ _ _ _ (T32.setTop (mkF m 114 #[.val (.long la), .second, .val (.long lb), .second, .val (.long lc), .second, .val (.int mm), .val (.long u0), .second, .val (.long f0), .second, .val (.long u1), .second, .val (.long f1), .second, .val (.long u2), .second, .val (.long f2), .second, .val (.ref (ad 0)), .val (.ref b28), .unset, .unset, .unset, .unset, .unset, .unset, .unset, .unset] [(.long (own_q u0 f0 (0 : Int64))), (.int (0 : Int32)), (.ref b28)]))
  obtain ⟨T33, h33, X33, e33, W33, st33⟩ := own_stJ X32 hx hZ e32 aq0 (j := (0 : Int32)) (by decide) (by decide) (g := (mkF m 114 #[.val (.long la), .second, .val (.long lb), .second, .val (.long lc), .second, .val (.int mm), .val (.long u0), .second, .val (.long f0), .second, .val (.long u1), .second, .val (.long f1), .second, .val (.long u2), .second, .val (.long f2), .second, .val (.ref (ad 0)), .val (.ref b28), .unset, .unset, .unset, .unset, .unset, .unset, .unset, .unset] [(.long (own_q u0 f0 (0 : Int64))), (.int (0 : Int32)), (.ref b28)])) rfl rfl (hb hby at_114)
  refine Gd.go (fun _ w_k => st33 _ w_k) ?_
  have xF34 := aq0.set W33
  have H35 := own_H.oth H29 W33 lt_q
  have xN36 := Fr.snoc X33 xN27 n0_b28
  have xZs37 := Nat.le_trans xZs30 (Keep.of_wr W33).1
  show Gd _ _ _ _ (T33.setTop (mkF m 115 #[.val (.long la), .second, .val (.long lb), .second, .val (.long lc), .second, .val (.int mm), .val (.long u0), .second, .val (.long f0), .second, .val (.long u1), .second, .val (.long f1), .second, .val (.long u2), .second, .val (.long f2), .second, .val (.ref (ad 0)), .val (.ref b28), .unset, .unset, .unset, .unset, .unset, .unset, .unset, .unset] []))
  have xT38 := own_setJ0 xF34
  refine Gd.go (fun _ w_k => XS.aload X33.here hx rfl (hb hby at_115) rfl rfl (XS.iconst X33.here hx rfl (hb hby at_117) (XS.lload X33.here hx rfl (hb hby at_118) rfl (XS.lload X33.here hx rfl (hb hby at_120) rfl (XS.iconst X33.here hx rfl (hb hby at_122) w_k))))) ?_
  show Gd _ _ _ _ (T33.setTop (mkF m 123 #[.val (.long la), .second, .val (.long lb), .second, .val (.long lc), .second, .val (.int mm), .val (.long u0), .second, .val (.long f0), .second, .val (.long u1), .second, .val (.long f1), .second, .val (.long u2), .second, .val (.long f2), .second, .val (.ref (ad 0)), .val (.ref b28), .unset, .unset, .unset, .unset, .unset, .unset, .unset, .unset] [(.int (1 : Int32)), (.long f1), (.long u1), (.int (1 : Int32)), (.ref b28)]))
  obtain ⟨T39, X39, e39, st39⟩ := own_callSP X33 hx hZ (y := (⟨"com/example/nearfield/nearfield/job/RankedReadsNextPinLaw", "pk", "(JJI)J"⟩ : MethodName)) hown (ow hw 133 rfl) (ow hw 134 rfl) (ow hw 135 rfl) (ow hw 136 rfl) (by decide) (W := 2) (own_c21_1 l Z a0 hw u1 f1 h33) rfl rfl e33 (by decide) (by decide) (g := (mkF m 123 #[.val (.long la), .second, .val (.long lb), .second, .val (.long lc), .second, .val (.int mm), .val (.long u0), .second, .val (.long f0), .second, .val (.long u1), .second, .val (.long f1), .second, .val (.long u2), .second, .val (.long f2), .second, .val (.ref (ad 0)), .val (.ref b28), .unset, .unset, .unset, .unset, .unset, .unset, .unset, .unset] [(.int (1 : Int32)), (.long f1), (.long u1), (.int (1 : Int32)), (.ref b28)])) rfl (by rw [hml]; rfl) (argsL := [(.long u1), (.long f1), (.int (1 : Int32))]) (rest := [(.int (1 : Int32)), (.ref b28)]) (lenOf own_pd1 rfl) rfl (Nat.le_of_eq rfl) (hb hby at_123) rfl
  refine Gd.go (fun _ w_k => st39 _ w_k) ?_
  show Gd _ _ _ _ (T39.setTop (mkF m 126 #[.val (.long la), .second, .val (.long lb), .second, .val (.long lc), .second, .val (.int mm), .val (.long u0), .second, .val (.long f0), .second, .val (.long u1), .second, .val (.long f1), .second, .val (.long u2), .second, .val (.long f2), .second, .val (.ref (ad 0)), .val (.ref b28), .unset, .unset, .unset, .unset, .unset, .unset, .unset, .unset] [(.long (own_q u1 f1 (1 : Int64))), (.int (1 : Int32)), (.ref b28)]))
  obtain ⟨T40, h40, X40, e40, W40, st40⟩ := own_stJ X39 hx hZ e39 xT38 (j := (1 : Int32)) (by decide) (by decide) (g := (mkF m 126 #[.val (.long la), .second, .val (.long lb), .second, .val (.long lc), .second, .val (.int mm), .val (.long u0), .second, .val (.long f0), .second, .val (.long u1), .second, .val (.long f1), .second, .val (.long u2), .second, .val (.long f2), .second, .val (.ref (ad 0)), .val (.ref b28), .unset, .unset, .unset, .unset, .unset, .unset, .unset, .unset] [(.long (own_q u1 f1 (1 : Int64))), (.int (1 : Int32)), (.ref b28)])) rfl rfl (hb hby at_126)
  refine Gd.go (fun _ w_k => st40 _ w_k) ?_
  have xF41 := xT38.set W40
  have H42 := own_H.oth H35 W40 lt_q
  have xN43 := Fr.snoc X40 xN36 n0_b28
  have xZs44 := Nat.le_trans xZs37 (Keep.of_wr W40).1
  show Gd _ _ _ _ (T40.setTop (mkF m 127 #[.val (.long la), .second, .val (.long lb), .second, .val (.long lc), .second, .val (.int mm), .val (.long u0), .second, .val (.long f0), .second, .val (.long u1), .second, .val (.long f1), .second, .val (.long u2), .second, .val (.long f2), .second, .val (.ref (ad 0)), .val (.ref b28), .unset, .unset, .unset, .unset, .unset, .unset, .unset, .unset] []))
  have xT45 := own_setJ1 xF41
  refine Gd.go (fun _ w_k => XS.aload X40.here hx rfl (hb hby at_127) rfl rfl (XS.iconst X40.here hx rfl (hb hby at_129) (XS.lload X40.here hx rfl (hb hby at_130) rfl (XS.lload X40.here hx rfl (hb hby at_132) rfl (XS.iconst X40.here hx rfl (hb hby at_134) w_k))))) ?_
  show Gd _ _ _ _ (T40.setTop (mkF m 135 #[.val (.long la), .second, .val (.long lb), .second, .val (.long lc), .second, .val (.int mm), .val (.long u0), .second, .val (.long f0), .second, .val (.long u1), .second, .val (.long f1), .second, .val (.long u2), .second, .val (.long f2), .second, .val (.ref (ad 0)), .val (.ref b28), .unset, .unset, .unset, .unset, .unset, .unset, .unset, .unset] [(.int (2 : Int32)), (.long f2), (.long u2), (.int (2 : Int32)), (.ref b28)]))
  obtain ⟨T46, X46, e46, st46⟩ := own_callSP X40 hx hZ (y := (⟨"com/example/nearfield/nearfield/job/RankedReadsNextPinLaw", "pk", "(JJI)J"⟩ : MethodName)) hown (ow hw 133 rfl) (ow hw 134 rfl) (ow hw 135 rfl) (ow hw 136 rfl) (by decide) (W := 2) (own_c21_2 l Z a0 hw u2 f2 h40) rfl rfl e40 (by decide) (by decide) (g := (mkF m 135 #[.val (.long la), .second, .val (.long lb), .second, .val (.long lc), .second, .val (.int mm), .val (.long u0), .second, .val (.long f0), .second, .val (.long u1), .second, .val (.long f1), .second, .val (.long u2), .second, .val (.long f2), .second, .val (.ref (ad 0)), .val (.ref b28), .unset, .unset, .unset, .unset, .unset, .unset, .unset, .unset] [(.int (2 : Int32)), (.long f2), (.long u2), (.int (2 : Int32)), (.ref b28)])) rfl (by rw [hml]; rfl) (argsL := [(.long u2), (.long f2), (.int (2 : Int32))]) (rest := [(.int (2 : Int32)), (.ref b28)]) (lenOf own_pd1 rfl) rfl (Nat.le_of_eq rfl) (hb hby at_135) rfl
  refine Gd.go (fun _ w_k => st46 _ w_k) ?_
  show Gd _ _ _ _ (T46.setTop (mkF m 138 #[.val (.long la), .second, .val (.long lb), .second, .val (.long lc), .second, .val (.int mm), .val (.long u0), .second, .val (.long f0), .second, .val (.long u1), .second, .val (.long f1), .second, .val (.long u2), .second, .val (.long f2), .second, .val (.ref (ad 0)), .val (.ref b28), .unset, .unset, .unset, .unset, .unset, .unset, .unset, .unset] [(.long (own_q u2 f2 (2 : Int64))), (.int (2 : Int32)), (.ref b28)]))
  obtain ⟨T47, h47, X47, e47, W47, st47⟩ := own_stJ X46 hx hZ e46 xT45 (j := (2 : Int32)) (by decide) (by decide) (g := (mkF m 138 #[.val (.long la), .second, .val (.long lb), .second, .val (.long lc), .second, .val (.int mm), .val (.long u0), .second, .val (.long f0), .second, .val (.long u1), .second, .val (.long f1), .second, .val (.long u2), .second, .val (.long f2), .second, .val (.ref (ad 0)), .val (.ref b28), .unset, .unset, .unset, .unset, .unset, .unset, .unset, .unset] [(.long (own_q u2 f2 (2 : Int64))), (.int (2 : Int32)), (.ref b28)])) rfl rfl (hb hby at_138)
  refine Gd.go (fun _ w_k => st47 _ w_k) ?_
  have xF48 := xT45.set W47
  have H49 := own_H.oth H42 W47 lt_q
  have xN50 := Fr.snoc X47 xN43 n0_b28
  have xZs51 := Nat.le_trans xZs44 (Keep.of_wr W47).1
  show Gd _ _ _ _ (T47.setTop (mkF m 139 #[.val (.long la), .second, .val (.long lb), .second, .val (.long lc), .second, .val (.int mm), .val (.long u0), .second, .val (.long f0), .second, .val (.long u1), .second, .val (.long f1), .second, .val (.long u2), .second, .val (.long f2), .second, .val (.ref (ad 0)), .val (.ref b28), .unset, .unset, .unset, .unset, .unset, .unset, .unset, .unset] []))
  have xT52 := own_setJ2 xF48
  refine Gd.go (fun _ w_k => XS.iconst X47.here hx rfl (hb hby at_139) w_k) ?_
  show Gd _ _ _ _ (T47.setTop (mkF m 140 #[.val (.long la), .second, .val (.long lb), .second, .val (.long lc), .second, .val (.int mm), .val (.long u0), .second, .val (.long f0), .second, .val (.long u1), .second, .val (.long f1), .second, .val (.long u2), .second, .val (.long f2), .second, .val (.ref (ad 0)), .val (.ref b28), .unset, .unset, .unset, .unset, .unset, .unset, .unset, .unset] [(.int (3 : Int32))]))
  obtain ⟨T53, h53, k53, X53, e53, E53, A53, st53⟩ := newP X47 hx hZ (ow hw 21 rfl) e47 (g := (mkF m 140 #[.val (.long la), .second, .val (.long lb), .second, .val (.long lc), .second, .val (.int mm), .val (.long u0), .second, .val (.long f0), .second, .val (.long u1), .second, .val (.long f1), .second, .val (.long u2), .second, .val (.long f2), .second, .val (.ref (ad 0)), .val (.ref b28), .unset, .unset, .unset, .unset, .unset, .unset, .unset, .unset] [(.int (3 : Int32))])) rfl (hb hby at_140) rfl (by decide) (cap := 3) (by decide) (by decide) (by decide) (by decide)
  obtain ⟨b53, g53⟩ : ∃ z, z = h47.size := ⟨_, rfl⟩
  rw [← g53] at A53 st53
  have ne_b28_b53 : b28 ≠ b53 := fun q => Nat.lt_irrefl _ (Nat.lt_of_lt_of_le xT52.lt (Nat.le_of_eq (q.trans g53).symm))
  have ne__ad_0__b53 : (ad 0) ≠ b53 := fun q => Nat.lt_irrefl _ (Nat.lt_of_lt_of_le H49.2.2.1.lt (Nat.le_of_eq (q.trans g53).symm))
  have ne__ad_1__b53 : (ad 1) ≠ b53 := fun q => Nat.lt_irrefl _ (Nat.lt_of_lt_of_le H49.2.2.2.1.lt (Nat.le_of_eq (q.trans g53).symm))
  have ne__ad_2__b53 : (ad 2) ≠ b53 := fun q => Nat.lt_irrefl _ (Nat.lt_of_lt_of_le H49.2.2.2.2.1.lt (Nat.le_of_eq (q.trans g53).symm))
  have ne__ad_3__b53 : (ad 3) ≠ b53 := fun q => Nat.lt_irrefl _ (Nat.lt_of_lt_of_le H49.2.2.2.2.2.1.lt (Nat.le_of_eq (q.trans g53).symm))
  have ne__ad_4__b53 : (ad 4) ≠ b53 := fun q => Nat.lt_irrefl _ (Nat.lt_of_lt_of_le H49.2.2.2.2.2.2.2.2.2.2.2.2.2.2.2.2.2.2.2.2.2.2.2.2.2.2.2.2.2.2.1.lt (Nat.le_of_eq (q.trans g53).symm))
  have ne__ad_7__b53 : (ad 7) ≠ b53 := fun q => Nat.lt_irrefl _ (Nat.lt_of_lt_of_le H49.2.2.2.2.2.2.2.2.2.2.2.2.2.2.2.2.2.2.2.2.2.2.2.2.2.2.2.2.2.2.2.2.2.1.lt (Nat.le_of_eq (q.trans g53).symm))
  have ne__ad_5__b53 : (ad 5) ≠ b53 := fun q => Nat.lt_irrefl _ (Nat.lt_of_lt_of_le H49.2.2.2.2.2.2.2.2.2.2.2.2.2.2.2.2.2.2.2.2.2.2.2.2.2.2.2.2.2.2.2.1.lt (Nat.le_of_eq (q.trans g53).symm))
  have ne__ad_8__b53 : (ad 8) ≠ b53 := fun q => Nat.lt_irrefl _ (Nat.lt_of_lt_of_le H49.2.2.2.2.2.2.2.2.2.2.2.2.2.2.2.2.2.2.2.2.2.2.2.2.2.2.2.2.2.2.2.2.2.2.1.lt (Nat.le_of_eq (q.trans g53).symm))
  have ne__ad_6__b53 : (ad 6) ≠ b53 := fun q => Nat.lt_irrefl _ (Nat.lt_of_lt_of_le H49.2.2.2.2.2.2.2.2.2.2.2.2.2.2.2.2.2.2.2.2.2.2.2.2.2.2.2.2.2.2.2.2.1.lt (Nat.le_of_eq (q.trans g53).symm))
  have ne__ad_9__b53 : (ad 9) ≠ b53 := fun q => Nat.lt_irrefl _ (Nat.lt_of_lt_of_le H49.2.2.2.2.2.2.2.2.2.2.2.2.2.2.2.2.2.2.2.2.2.2.2.2.2.2.2.2.2.2.2.2.2.2.2.1.lt (Nat.le_of_eq (q.trans g53).symm))
  have ne__ad_10__b53 : (ad 10) ≠ b53 := fun q => Nat.lt_irrefl _ (Nat.lt_of_lt_of_le H49.2.2.2.2.2.2.2.2.2.2.2.2.2.2.2.2.2.2.2.2.2.2.2.2.2.2.2.2.2.2.2.2.2.2.2.2.lt (Nat.le_of_eq (q.trans g53).symm))
  have n0_b53 : n0 ≤ b53 := Nat.le_trans xZs51 (Nat.le_of_eq g53.symm)
  have xF54 := xT52.ext E53
  have H55 := own_H.ext H49 E53
  have xZs56 := Nat.le_trans xZs51 E53.1
  have xF57 : ArF Z h53 b53 .int 3 (fun _ => (.int (0 : Int32))) := own_new (h := h47) A53 (by decide)
  refine Gd.go (fun _ w_k => st53 _ w_k) ?_
  show Gd _ _ _ _ (T53.setTop (mkF m 142 #[.val (.long la), .second, .val (.long lb), .second, .val (.long lc), .second, .val (.int mm), .val (.long u0), .second, .val (.long f0), .second, .val (.long u1), .second, .val (.long f1), .second, .val (.long u2), .second, .val (.long f2), .second, .val (.ref (ad 0)), .val (.ref b28), .unset, .unset, .unset, .unset, .unset, .unset, .unset, .unset] [(.ref b53)]))
  have lt_bp : ∀ i, i < 11 → ad i ≠ b53 := fun i hi => Nat.ne_of_lt (Nat.lt_of_lt_of_le (own_H.lt H49 i hi) (Nat.le_of_eq g53.symm))
  refine Gd.go (fun _ w_k => XS.astore X53.here hx rfl (hb hby at_142) rfl rfl (l' := #[.val (.long la), .second, .val (.long lb), .second, .val (.long lc), .second, .val (.int mm), .val (.long u0), .second, .val (.long f0), .second, .val (.long u1), .second, .val (.long f1), .second, .val (.long u2), .second, .val (.long f2), .second, .val (.ref (ad 0)), .val (.ref b28), .val (.ref b53), .unset, .unset, .unset, .unset, .unset, .unset, .unset]) rfl (XS.aload X53.here hx rfl (hb hby at_144) rfl rfl (XS.aload X53.here hx rfl (hb hby at_146) rfl rfl (XS.iconst X53.here hx rfl (hb hby at_148) (own_ldJ X53 hx hZ e53 xF54 (j := (0 : Int32)) (by decide) (by decide) (v := (.long (own_q u0 f0 (0 : Int64)))) rfl (g := (mkF m 149 #[.val (.long la), .second, .val (.long lb), .second, .val (.long lc), .second, .val (.int mm), .val (.long u0), .second, .val (.long f0), .second, .val (.long u1), .second, .val (.long f1), .second, .val (.long u2), .second, .val (.long f2), .second, .val (.ref (ad 0)), .val (.ref b28), .val (.ref b53), .unset, .unset, .unset, .unset, .unset, .unset, .unset] [(.int (0 : Int32)), (.ref b28), (.ref b53)])) rfl rfl (hb hby at_149) _ (XS.aload X53.here hx rfl (hb hby at_150) rfl rfl (XS.iconst X53.here hx rfl (hb hby at_152) (own_ldJ X53 hx hZ e53 xF54 (j := (1 : Int32)) (by decide) (by decide) (v := (.long (own_q u1 f1 (1 : Int64)))) rfl (g := (mkF m 153 #[.val (.long la), .second, .val (.long lb), .second, .val (.long lc), .second, .val (.int mm), .val (.long u0), .second, .val (.long f0), .second, .val (.long u1), .second, .val (.long f1), .second, .val (.long u2), .second, .val (.long f2), .second, .val (.ref (ad 0)), .val (.ref b28), .val (.ref b53), .unset, .unset, .unset, .unset, .unset, .unset, .unset] [(.int (1 : Int32)), (.ref b28), (.long (own_q u0 f0 (0 : Int64))), (.ref b53)])) rfl rfl (hb hby at_153) _ (XS.aload X53.here hx rfl (hb hby at_154) rfl rfl (XS.iconst X53.here hx rfl (hb hby at_156) (own_ldJ X53 hx hZ e53 xF54 (j := (2 : Int32)) (by decide) (by decide) (v := (.long (own_q u2 f2 (2 : Int64)))) rfl (g := (mkF m 157 #[.val (.long la), .second, .val (.long lb), .second, .val (.long lc), .second, .val (.int mm), .val (.long u0), .second, .val (.long f0), .second, .val (.long u1), .second, .val (.long f1), .second, .val (.long u2), .second, .val (.long f2), .second, .val (.ref (ad 0)), .val (.ref b28), .val (.ref b53), .unset, .unset, .unset, .unset, .unset, .unset, .unset] [(.int (2 : Int32)), (.ref b28), (.long (own_q u1 f1 (1 : Int64))), (.long (own_q u0 f0 (0 : Int64))), (.ref b53)])) rfl rfl (hb hby at_157) _ w_k))))))))))) ?_
  show Gd _ _ _ _ (T53.setTop (mkF m 158 #[.val (.long la), .second, .val (.long lb), .second, .val (.long lc), .second, .val (.int mm), .val (.long u0), .second, .val (.long f0), .second, .val (.long u1), .second, .val (.long f1), .second, .val (.long u2), .second, .val (.long f2), .second, .val (.ref (ad 0)), .val (.ref b28), .val (.ref b53), .unset, .unset, .unset, .unset, .unset, .unset, .unset] [(.long (own_q u2 f2 (2 : Int64))), (.long (own_q u1 f1 (1 : Int64))), (.long (own_q u0 f0 (0 : Int64))), (.ref b53)]))
  obtain ⟨T58, X58, e58, st58⟩ := own_callSP X53 hx hZ (y := (⟨"com/example/nearfield/nearfield/job/RankedReadsNextPinLaw", "pos", "(JJJ)I"⟩ : MethodName)) hown (ow hw 137 rfl) (ow hw 138 rfl) (ow hw 135 rfl) (ow hw 139 rfl) (by decide) (W := 1) (own_c22 l Z a0 hw (own_q u0 f0 (0 : Int64)) (own_q u1 f1 (1 : Int64)) (own_q u2 f2 (2 : Int64)) h53) rfl rfl e53 (by decide) (by decide) (g := (mkF m 158 #[.val (.long la), .second, .val (.long lb), .second, .val (.long lc), .second, .val (.int mm), .val (.long u0), .second, .val (.long f0), .second, .val (.long u1), .second, .val (.long f1), .second, .val (.long u2), .second, .val (.long f2), .second, .val (.ref (ad 0)), .val (.ref b28), .val (.ref b53), .unset, .unset, .unset, .unset, .unset, .unset, .unset] [(.long (own_q u2 f2 (2 : Int64))), (.long (own_q u1 f1 (1 : Int64))), (.long (own_q u0 f0 (0 : Int64))), (.ref b53)])) rfl (by rw [hml]; rfl) (argsL := [(.long (own_q u0 f0 (0 : Int64))), (.long (own_q u1 f1 (1 : Int64))), (.long (own_q u2 f2 (2 : Int64)))]) (rest := [(.ref b53)]) (lenOf own_pd12 rfl) rfl (Nat.le_of_eq rfl) (hb hby at_158) rfl
  refine Gd.go (fun _ w_k => st58 _ (XS.iconst X58.here hx rfl (hb hby at_161) w_k)) ?_
  show Gd _ _ _ _ (T58.setTop (mkF m 162 #[.val (.long la), .second, .val (.long lb), .second, .val (.long lc), .second, .val (.int mm), .val (.long u0), .second, .val (.long f0), .second, .val (.long u1), .second, .val (.long f1), .second, .val (.long u2), .second, .val (.long f2), .second, .val (.ref (ad 0)), .val (.ref b28), .val (.ref b53), .unset, .unset, .unset, .unset, .unset, .unset, .unset] [(.int (0 : Int32)), (.int (own_pos (own_q u0 f0 (0 : Int64)) (own_q u1 f1 (1 : Int64)) (own_q u2 f2 (2 : Int64)))), (.ref b53)]))
  obtain ⟨T59, h59, X59, e59, W59, st59⟩ := own_stI X58 hx hZ e58 xF57 (j := (own_pos (own_q u0 f0 (0 : Int64)) (own_q u1 f1 (1 : Int64)) (own_q u2 f2 (2 : Int64)))) (own_posb _ _ _).1 (own_posb _ _ _).2 (g := (mkF m 162 #[.val (.long la), .second, .val (.long lb), .second, .val (.long lc), .second, .val (.int mm), .val (.long u0), .second, .val (.long f0), .second, .val (.long u1), .second, .val (.long f1), .second, .val (.long u2), .second, .val (.long f2), .second, .val (.ref (ad 0)), .val (.ref b28), .val (.ref b53), .unset, .unset, .unset, .unset, .unset, .unset, .unset] [(.int (0 : Int32)), (.int (own_pos (own_q u0 f0 (0 : Int64)) (own_q u1 f1 (1 : Int64)) (own_q u2 f2 (2 : Int64)))), (.ref b53)])) rfl rfl (hb hby at_162)
  refine Gd.go (fun _ w_k => st59 _ w_k) ?_
  have xF60 := xF54.other W59 ne_b28_b53
  have xF61 := xF57.set W59
  have H62 := own_H.oth H55 W59 lt_bp
  have xN63 := Fr.snoc X59 xN50 n0_b53
  have xZs64 := Nat.le_trans xZs56 (Keep.of_wr W59).1
  show Gd _ _ _ _ (T59.setTop (mkF m 163 #[.val (.long la), .second, .val (.long lb), .second, .val (.long lc), .second, .val (.int mm), .val (.long u0), .second, .val (.long f0), .second, .val (.long u1), .second, .val (.long f1), .second, .val (.long u2), .second, .val (.long f2), .second, .val (.ref (ad 0)), .val (.ref b28), .val (.ref b53), .unset, .unset, .unset, .unset, .unset, .unset, .unset] []))
  refine Gd.go (fun _ w_k => XS.aload X59.here hx rfl (hb hby at_163) rfl rfl (XS.aload X59.here hx rfl (hb hby at_165) rfl rfl (XS.iconst X59.here hx rfl (hb hby at_167) (own_ldJ X59 hx hZ e59 xF60 (j := (1 : Int32)) (by decide) (by decide) (v := (.long (own_q u1 f1 (1 : Int64)))) rfl (g := (mkF m 168 #[.val (.long la), .second, .val (.long lb), .second, .val (.long lc), .second, .val (.int mm), .val (.long u0), .second, .val (.long f0), .second, .val (.long u1), .second, .val (.long f1), .second, .val (.long u2), .second, .val (.long f2), .second, .val (.ref (ad 0)), .val (.ref b28), .val (.ref b53), .unset, .unset, .unset, .unset, .unset, .unset, .unset] [(.int (1 : Int32)), (.ref b28), (.ref b53)])) rfl rfl (hb hby at_168) _ (XS.aload X59.here hx rfl (hb hby at_169) rfl rfl (XS.iconst X59.here hx rfl (hb hby at_171) (own_ldJ X59 hx hZ e59 xF60 (j := (0 : Int32)) (by decide) (by decide) (v := (.long (own_q u0 f0 (0 : Int64)))) rfl (g := (mkF m 172 #[.val (.long la), .second, .val (.long lb), .second, .val (.long lc), .second, .val (.int mm), .val (.long u0), .second, .val (.long f0), .second, .val (.long u1), .second, .val (.long f1), .second, .val (.long u2), .second, .val (.long f2), .second, .val (.ref (ad 0)), .val (.ref b28), .val (.ref b53), .unset, .unset, .unset, .unset, .unset, .unset, .unset] [(.int (0 : Int32)), (.ref b28), (.long (own_q u1 f1 (1 : Int64))), (.ref b53)])) rfl rfl (hb hby at_172) _ (XS.aload X59.here hx rfl (hb hby at_173) rfl rfl (XS.iconst X59.here hx rfl (hb hby at_175) (own_ldJ X59 hx hZ e59 xF60 (j := (2 : Int32)) (by decide) (by decide) (v := (.long (own_q u2 f2 (2 : Int64)))) rfl (g := (mkF m 176 #[.val (.long la), .second, .val (.long lb), .second, .val (.long lc), .second, .val (.int mm), .val (.long u0), .second, .val (.long f0), .second, .val (.long u1), .second, .val (.long f1), .second, .val (.long u2), .second, .val (.long f2), .second, .val (.ref (ad 0)), .val (.ref b28), .val (.ref b53), .unset, .unset, .unset, .unset, .unset, .unset, .unset] [(.int (2 : Int32)), (.ref b28), (.long (own_q u0 f0 (0 : Int64))), (.long (own_q u1 f1 (1 : Int64))), (.ref b53)])) rfl rfl (hb hby at_176) _ w_k)))))))))) ?_
  show Gd _ _ _ _ (T59.setTop (mkF m 177 #[.val (.long la), .second, .val (.long lb), .second, .val (.long lc), .second, .val (.int mm), .val (.long u0), .second, .val (.long f0), .second, .val (.long u1), .second, .val (.long f1), .second, .val (.long u2), .second, .val (.long f2), .second, .val (.ref (ad 0)), .val (.ref b28), .val (.ref b53), .unset, .unset, .unset, .unset, .unset, .unset, .unset] [(.long (own_q u2 f2 (2 : Int64))), (.long (own_q u0 f0 (0 : Int64))), (.long (own_q u1 f1 (1 : Int64))), (.ref b53)]))
  obtain ⟨T65, X65, e65, st65⟩ := own_callSP X59 hx hZ (y := (⟨"com/example/nearfield/nearfield/job/RankedReadsNextPinLaw", "pos", "(JJJ)I"⟩ : MethodName)) hown (ow hw 137 rfl) (ow hw 138 rfl) (ow hw 135 rfl) (ow hw 139 rfl) (by decide) (W := 1) (own_c22 l Z a0 hw (own_q u1 f1 (1 : Int64)) (own_q u0 f0 (0 : Int64)) (own_q u2 f2 (2 : Int64)) h59) rfl rfl e59 (by decide) (by decide) (g := (mkF m 177 #[.val (.long la), .second, .val (.long lb), .second, .val (.long lc), .second, .val (.int mm), .val (.long u0), .second, .val (.long f0), .second, .val (.long u1), .second, .val (.long f1), .second, .val (.long u2), .second, .val (.long f2), .second, .val (.ref (ad 0)), .val (.ref b28), .val (.ref b53), .unset, .unset, .unset, .unset, .unset, .unset, .unset] [(.long (own_q u2 f2 (2 : Int64))), (.long (own_q u0 f0 (0 : Int64))), (.long (own_q u1 f1 (1 : Int64))), (.ref b53)])) rfl (by rw [hml]; rfl) (argsL := [(.long (own_q u1 f1 (1 : Int64))), (.long (own_q u0 f0 (0 : Int64))), (.long (own_q u2 f2 (2 : Int64)))]) (rest := [(.ref b53)]) (lenOf own_pd12 rfl) rfl (Nat.le_of_eq rfl) (hb hby at_177) rfl
  refine Gd.go (fun _ w_k => st65 _ (XS.iconst X65.here hx rfl (hb hby at_180) w_k)) ?_
  show Gd _ _ _ _ (T65.setTop (mkF m 181 #[.val (.long la), .second, .val (.long lb), .second, .val (.long lc), .second, .val (.int mm), .val (.long u0), .second, .val (.long f0), .second, .val (.long u1), .second, .val (.long f1), .second, .val (.long u2), .second, .val (.long f2), .second, .val (.ref (ad 0)), .val (.ref b28), .val (.ref b53), .unset, .unset, .unset, .unset, .unset, .unset, .unset] [(.int (1 : Int32)), (.int (own_pos (own_q u1 f1 (1 : Int64)) (own_q u0 f0 (0 : Int64)) (own_q u2 f2 (2 : Int64)))), (.ref b53)]))
  obtain ⟨T66, h66, X66, e66, W66, st66⟩ := own_stI X65 hx hZ e65 xF61 (j := (own_pos (own_q u1 f1 (1 : Int64)) (own_q u0 f0 (0 : Int64)) (own_q u2 f2 (2 : Int64)))) (own_posb _ _ _).1 (own_posb _ _ _).2 (g := (mkF m 181 #[.val (.long la), .second, .val (.long lb), .second, .val (.long lc), .second, .val (.int mm), .val (.long u0), .second, .val (.long f0), .second, .val (.long u1), .second, .val (.long f1), .second, .val (.long u2), .second, .val (.long f2), .second, .val (.ref (ad 0)), .val (.ref b28), .val (.ref b53), .unset, .unset, .unset, .unset, .unset, .unset, .unset] [(.int (1 : Int32)), (.int (own_pos (own_q u1 f1 (1 : Int64)) (own_q u0 f0 (0 : Int64)) (own_q u2 f2 (2 : Int64)))), (.ref b53)])) rfl rfl (hb hby at_181)
  refine Gd.go (fun _ w_k => st66 _ w_k) ?_
  have xF67 := xF60.other W66 ne_b28_b53
  have xF68 := xF61.set W66
  have H69 := own_H.oth H62 W66 lt_bp
  have xN70 := Fr.snoc X66 xN63 n0_b53
  have xZs71 := Nat.le_trans xZs64 (Keep.of_wr W66).1
  show Gd _ _ _ _ (T66.setTop (mkF m 182 #[.val (.long la), .second, .val (.long lb), .second, .val (.long lc), .second, .val (.int mm), .val (.long u0), .second, .val (.long f0), .second, .val (.long u1), .second, .val (.long f1), .second, .val (.long u2), .second, .val (.long f2), .second, .val (.ref (ad 0)), .val (.ref b28), .val (.ref b53), .unset, .unset, .unset, .unset, .unset, .unset, .unset] []))
  refine Gd.go (fun _ w_k => XS.aload X66.here hx rfl (hb hby at_182) rfl rfl (XS.aload X66.here hx rfl (hb hby at_184) rfl rfl (XS.iconst X66.here hx rfl (hb hby at_186) (own_ldJ X66 hx hZ e66 xF67 (j := (2 : Int32)) (by decide) (by decide) (v := (.long (own_q u2 f2 (2 : Int64)))) rfl (g := (mkF m 187 #[.val (.long la), .second, .val (.long lb), .second, .val (.long lc), .second, .val (.int mm), .val (.long u0), .second, .val (.long f0), .second, .val (.long u1), .second, .val (.long f1), .second, .val (.long u2), .second, .val (.long f2), .second, .val (.ref (ad 0)), .val (.ref b28), .val (.ref b53), .unset, .unset, .unset, .unset, .unset, .unset, .unset] [(.int (2 : Int32)), (.ref b28), (.ref b53)])) rfl rfl (hb hby at_187) _ (XS.aload X66.here hx rfl (hb hby at_188) rfl rfl (XS.iconst X66.here hx rfl (hb hby at_190) (own_ldJ X66 hx hZ e66 xF67 (j := (0 : Int32)) (by decide) (by decide) (v := (.long (own_q u0 f0 (0 : Int64)))) rfl (g := (mkF m 191 #[.val (.long la), .second, .val (.long lb), .second, .val (.long lc), .second, .val (.int mm), .val (.long u0), .second, .val (.long f0), .second, .val (.long u1), .second, .val (.long f1), .second, .val (.long u2), .second, .val (.long f2), .second, .val (.ref (ad 0)), .val (.ref b28), .val (.ref b53), .unset, .unset, .unset, .unset, .unset, .unset, .unset] [(.int (0 : Int32)), (.ref b28), (.long (own_q u2 f2 (2 : Int64))), (.ref b53)])) rfl rfl (hb hby at_191) _ (XS.aload X66.here hx rfl (hb hby at_192) rfl rfl (XS.iconst X66.here hx rfl (hb hby at_194) (own_ldJ X66 hx hZ e66 xF67 (j := (1 : Int32)) (by decide) (by decide) (v := (.long (own_q u1 f1 (1 : Int64)))) rfl (g := (mkF m 195 #[.val (.long la), .second, .val (.long lb), .second, .val (.long lc), .second, .val (.int mm), .val (.long u0), .second, .val (.long f0), .second, .val (.long u1), .second, .val (.long f1), .second, .val (.long u2), .second, .val (.long f2), .second, .val (.ref (ad 0)), .val (.ref b28), .val (.ref b53), .unset, .unset, .unset, .unset, .unset, .unset, .unset] [(.int (1 : Int32)), (.ref b28), (.long (own_q u0 f0 (0 : Int64))), (.long (own_q u2 f2 (2 : Int64))), (.ref b53)])) rfl rfl (hb hby at_195) _ w_k)))))))))) ?_
  show Gd _ _ _ _ (T66.setTop (mkF m 196 #[.val (.long la), .second, .val (.long lb), .second, .val (.long lc), .second, .val (.int mm), .val (.long u0), .second, .val (.long f0), .second, .val (.long u1), .second, .val (.long f1), .second, .val (.long u2), .second, .val (.long f2), .second, .val (.ref (ad 0)), .val (.ref b28), .val (.ref b53), .unset, .unset, .unset, .unset, .unset, .unset, .unset] [(.long (own_q u1 f1 (1 : Int64))), (.long (own_q u0 f0 (0 : Int64))), (.long (own_q u2 f2 (2 : Int64))), (.ref b53)]))
  obtain ⟨T72, X72, e72, st72⟩ := own_callSP X66 hx hZ (y := (⟨"com/example/nearfield/nearfield/job/RankedReadsNextPinLaw", "pos", "(JJJ)I"⟩ : MethodName)) hown (ow hw 137 rfl) (ow hw 138 rfl) (ow hw 135 rfl) (ow hw 139 rfl) (by decide) (W := 1) (own_c22 l Z a0 hw (own_q u2 f2 (2 : Int64)) (own_q u0 f0 (0 : Int64)) (own_q u1 f1 (1 : Int64)) h66) rfl rfl e66 (by decide) (by decide) (g := (mkF m 196 #[.val (.long la), .second, .val (.long lb), .second, .val (.long lc), .second, .val (.int mm), .val (.long u0), .second, .val (.long f0), .second, .val (.long u1), .second, .val (.long f1), .second, .val (.long u2), .second, .val (.long f2), .second, .val (.ref (ad 0)), .val (.ref b28), .val (.ref b53), .unset, .unset, .unset, .unset, .unset, .unset, .unset] [(.long (own_q u1 f1 (1 : Int64))), (.long (own_q u0 f0 (0 : Int64))), (.long (own_q u2 f2 (2 : Int64))), (.ref b53)])) rfl (by rw [hml]; rfl) (argsL := [(.long (own_q u2 f2 (2 : Int64))), (.long (own_q u0 f0 (0 : Int64))), (.long (own_q u1 f1 (1 : Int64)))]) (rest := [(.ref b53)]) (lenOf own_pd12 rfl) rfl (Nat.le_of_eq rfl) (hb hby at_196) rfl
  refine Gd.go (fun _ w_k => st72 _ (XS.iconst X72.here hx rfl (hb hby at_199) w_k)) ?_
  show Gd _ _ _ _ (T72.setTop (mkF m 200 #[.val (.long la), .second, .val (.long lb), .second, .val (.long lc), .second, .val (.int mm), .val (.long u0), .second, .val (.long f0), .second, .val (.long u1), .second, .val (.long f1), .second, .val (.long u2), .second, .val (.long f2), .second, .val (.ref (ad 0)), .val (.ref b28), .val (.ref b53), .unset, .unset, .unset, .unset, .unset, .unset, .unset] [(.int (2 : Int32)), (.int (own_pos (own_q u2 f2 (2 : Int64)) (own_q u0 f0 (0 : Int64)) (own_q u1 f1 (1 : Int64)))), (.ref b53)]))
  obtain ⟨T73, h73, X73, e73, W73, st73⟩ := own_stI X72 hx hZ e72 xF68 (j := (own_pos (own_q u2 f2 (2 : Int64)) (own_q u0 f0 (0 : Int64)) (own_q u1 f1 (1 : Int64)))) (own_posb _ _ _).1 (own_posb _ _ _).2 (g := (mkF m 200 #[.val (.long la), .second, .val (.long lb), .second, .val (.long lc), .second, .val (.int mm), .val (.long u0), .second, .val (.long f0), .second, .val (.long u1), .second, .val (.long f1), .second, .val (.long u2), .second, .val (.long f2), .second, .val (.ref (ad 0)), .val (.ref b28), .val (.ref b53), .unset, .unset, .unset, .unset, .unset, .unset, .unset] [(.int (2 : Int32)), (.int (own_pos (own_q u2 f2 (2 : Int64)) (own_q u0 f0 (0 : Int64)) (own_q u1 f1 (1 : Int64)))), (.ref b53)])) rfl rfl (hb hby at_200)
  refine Gd.go (fun _ w_k => st73 _ w_k) ?_
  have xF74 := xF67.other W73 ne_b28_b53
  have xF75 := xF68.set W73
  have H76 := own_H.oth H69 W73 lt_bp
  have xN77 := Fr.snoc X73 xN70 n0_b53
  have xZs78 := Nat.le_trans xZs71 (Keep.of_wr W73).1
  show Gd _ _ _ _ (T73.setTop (mkF m 201 #[.val (.long la), .second, .val (.long lb), .second, .val (.long lc), .second, .val (.int mm), .val (.long u0), .second, .val (.long f0), .second, .val (.long u1), .second, .val (.long f1), .second, .val (.long u2), .second, .val (.long f2), .second, .val (.ref (ad 0)), .val (.ref b28), .val (.ref b53), .unset, .unset, .unset, .unset, .unset, .unset, .unset] []))
  obtain ⟨B0, B1, B2, hB, ⟨eB0, eB1, eB2⟩, ⟨eJ0, eJ1, eJ2⟩, gB0, gB1, gB2⟩ := own_bp hs hX0 hX1 hX2
  have ab := xF75.congr hB
  refine Gd.go (fun _ w_k => XS.aload X73.here hx rfl (hb hby at_201) rfl rfl w_k) ?_
  show Gd _ _ _ _ (T73.setTop (mkF m 203 #[.val (.long la), .second, .val (.long lb), .second, .val (.long lc), .second, .val (.int mm), .val (.long u0), .second, .val (.long f0), .second, .val (.long u1), .second, .val (.long f1), .second, .val (.long u2), .second, .val (.long f2), .second, .val (.ref (ad 0)), .val (.ref b28), .val (.ref b53), .unset, .unset, .unset, .unset, .unset, .unset, .unset] [(.ref (ad 0))]))
  obtain ⟨T79, X79, e79, st79⟩ := own_callVP X73 hx hZ (C := "com/example/nearfield/nearfield/job/RankedReads") (y := (⟨"com/example/nearfield/nearfield/job/RankedReads", "index", "()I"⟩ : MethodName)) hown (ow hw 140 rfl) (ow hw 141 rfl) (ow hw 143 rfl) (ow hw 142 rfl) (ow hw 4 rfl) (ow hw 144 rfl) (by decide) H76.2.2.1 (W := 0) (own_c23 l Z a0 hw h73 n0 ad (ad 2) (ad 1) (0 : Int32) (3 : Int32) (3 : Int32) (0 : Int32) (0 : Int32) sa (0 : Int32) (3 : Int32) (0 : Int32) (0 : Int64) (0 : Int64) (0 : Int64) sa sb sc sa sb sc (0 : Int32) (0 : Int32) (0 : Int32) (0 : Int32) (0 : Int32) (0 : Int32) (0 : Int32) (0 : Int32) (0 : Int32) (0 : Int32) (0 : Int32) (0 : Int32) H76) rfl rfl e73 (by decide) (by decide) (g := (mkF m 203 #[.val (.long la), .second, .val (.long lb), .second, .val (.long lc), .second, .val (.int mm), .val (.long u0), .second, .val (.long f0), .second, .val (.long u1), .second, .val (.long f1), .second, .val (.long u2), .second, .val (.long f2), .second, .val (.ref (ad 0)), .val (.ref b28), .val (.ref b53), .unset, .unset, .unset, .unset, .unset, .unset, .unset] [(.ref (ad 0))])) rfl (by rw [hml]; rfl) (argsL := []) (rest := []) (lenOf own_pd13 rfl) rfl (Nat.le_of_eq rfl) (hb hby at_203) rfl
  refine Gd.go (fun _ w_k => st79 _ (XS.ifNo X79.here hx rfl (hb hby at_206) rfl ((if0 _ _).trans (teq (by decide)).2) w_k)) ?_
  show Gd _ _ _ _ (T79.setTop (mkF m 209 #[.val (.long la), .second, .val (.long lb), .second, .val (.long lc), .second, .val (.int mm), .val (.long u0), .second, .val (.long f0), .second, .val (.long u1), .second, .val (.long f1), .second, .val (.long u2), .second, .val (.long f2), .second, .val (.ref (ad 0)), .val (.ref b28), .val (.ref b53), .unset, .unset, .unset, .unset, .unset, .unset, .unset] []))
  refine Gd.go (fun _ w_k => XS.aload X79.here hx rfl (hb hby at_209) rfl rfl w_k) ?_
  show Gd _ _ _ _ (T79.setTop (mkF m 211 #[.val (.long la), .second, .val (.long lb), .second, .val (.long lc), .second, .val (.int mm), .val (.long u0), .second, .val (.long f0), .second, .val (.long u1), .second, .val (.long f1), .second, .val (.long u2), .second, .val (.long f2), .second, .val (.ref (ad 0)), .val (.ref b28), .val (.ref b53), .unset, .unset, .unset, .unset, .unset, .unset, .unset] [(.ref (ad 0))]))
  obtain ⟨T80, X80, e80, st80⟩ := own_callVP X79 hx hZ (C := "com/example/nearfield/nearfield/job/RankedReads") (y := (⟨"com/example/nearfield/nearfield/job/RankedReads", "packedNext", "()J"⟩ : MethodName)) hown (ow hw 145 rfl) (ow hw 146 rfl) (ow hw 148 rfl) (ow hw 147 rfl) (ow hw 4 rfl) (ow hw 149 rfl) (by decide) H76.2.2.1 (W := 0) (own_c24 l Z a0 hw h73 n0 ad (ad 2) (ad 1) (0 : Int32) (3 : Int32) (3 : Int32) (0 : Int32) (0 : Int32) sa (0 : Int32) (3 : Int32) (0 : Int32) (0 : Int64) (0 : Int64) (0 : Int64) sa sb sc sa sb sc (0 : Int32) (0 : Int32) (0 : Int32) (0 : Int32) (0 : Int32) (0 : Int32) (0 : Int32) (0 : Int32) (0 : Int32) (0 : Int32) (0 : Int32) (0 : Int32) H76) rfl rfl e79 (by decide) (by decide) (g := (mkF m 211 #[.val (.long la), .second, .val (.long lb), .second, .val (.long lc), .second, .val (.int mm), .val (.long u0), .second, .val (.long f0), .second, .val (.long u1), .second, .val (.long f1), .second, .val (.long u2), .second, .val (.long f2), .second, .val (.ref (ad 0)), .val (.ref b28), .val (.ref b53), .unset, .unset, .unset, .unset, .unset, .unset, .unset] [(.ref (ad 0))])) rfl (by rw [hml]; rfl) (argsL := []) (rest := []) (lenOf own_pd14 rfl) rfl (Nat.le_of_eq rfl) (hb hby at_211) rfl
  refine Gd.go (fun _ w_k => st80 _ (XS.aload X80.here hx rfl (hb hby at_214) rfl rfl (XS.aload X80.here hx rfl (hb hby at_216) rfl rfl (XS.iconst X80.here hx rfl (hb hby at_218) (own_ldI X80 hx hZ e80 ab (j := (0 : Int32)) (by decide) (by decide) (v := (.int B0)) rfl (g := (mkF m 219 #[.val (.long la), .second, .val (.long lb), .second, .val (.long lc), .second, .val (.int mm), .val (.long u0), .second, .val (.long f0), .second, .val (.long u1), .second, .val (.long f1), .second, .val (.long u2), .second, .val (.long f2), .second, .val (.ref (ad 0)), .val (.ref b28), .val (.ref b53), .unset, .unset, .unset, .unset, .unset, .unset, .unset] [(.int (0 : Int32)), (.ref b53), (.ref b28), (.long sa)])) rfl rfl (hb hby at_219) _ (own_ldJ X80 hx hZ e80 xF74 (j := B0) gB0.1 gB0.2 (v := (.long sa)) eJ0 (g := (mkF m 220 #[.val (.long la), .second, .val (.long lb), .second, .val (.long lc), .second, .val (.int mm), .val (.long u0), .second, .val (.long f0), .second, .val (.long u1), .second, .val (.long f1), .second, .val (.long u2), .second, .val (.long f2), .second, .val (.ref (ad 0)), .val (.ref b28), .val (.ref b53), .unset, .unset, .unset, .unset, .unset, .unset, .unset] [(.int B0), (.ref b28), (.long sa)])) rfl rfl (hb hby at_220) _ (XS.lcmp X80.here hx rfl (hb hby at_221) rfl (XS.ifNo X80.here hx rfl (hb hby at_222) rfl ((if0 _ _).trans (teq ((lw_eq _ _).mpr rfl)).2) w_k)))))))) ?_
  show Gd _ _ _ _ (T80.setTop (mkF m 225 #[.val (.long la), .second, .val (.long lb), .second, .val (.long lc), .second, .val (.int mm), .val (.long u0), .second, .val (.long f0), .second, .val (.long u1), .second, .val (.long f1), .second, .val (.long u2), .second, .val (.long f2), .second, .val (.ref (ad 0)), .val (.ref b28), .val (.ref b53), .unset, .unset, .unset, .unset, .unset, .unset, .unset] []))
  refine Gd.go (fun _ w_k => XS.iconst X80.here hx rfl (hb hby at_225) (XS.goto X80.here hx rfl (pc0 := 226) (pc' := 230) rfl (hb hby at_226) (by decide) (by decide) (XS.istore X80.here hx rfl (hb hby at_230) rfl (l' := #[.val (.long la), .second, .val (.long lb), .second, .val (.long lc), .second, .val (.int mm), .val (.long u0), .second, .val (.long f0), .second, .val (.long u1), .second, .val (.long f1), .second, .val (.long u2), .second, .val (.long f2), .second, .val (.ref (ad 0)), .val (.ref b28), .val (.ref b53), .val (.int (1 : Int32)), .unset, .unset, .unset, .unset, .unset, .unset]) rfl w_k))) ?_
  show Gd _ _ _ _ (T80.setTop (mkF m 232 #[.val (.long la), .second, .val (.long lb), .second, .val (.long lc), .second, .val (.int mm), .val (.long u0), .second, .val (.long f0), .second, .val (.long u1), .second, .val (.long f1), .second, .val (.long u2), .second, .val (.long f2), .second, .val (.ref (ad 0)), .val (.ref b28), .val (.ref b53), .val (.int (1 : Int32)), .unset, .unset, .unset, .unset, .unset, .unset] []))
  rw [← e80] at H76 xF74 ab
  refine Gd.viaA (A := fun y : State × List Loc × Int32 => Stand pg l ev room_1 s_ m #[(.long la), (.long lb), (.long lc), (.int mm)] bl mt cd y.1 y.2.1 13 129 ∧ own_H Z y.1.heap n0 ad (ad 2) (ad 1) (0 : Int32) (3 : Int32) (3 : Int32) y.2.2 (0 : Int32) sa (0 : Int32) (3 : Int32) (0 : Int32) (0 : Int64) (0 : Int64) (0 : Int64) sa sb sc sa sb sc (0 : Int32) (0 : Int32) (0 : Int32) (0 : Int32) (0 : Int32) (0 : Int32) (0 : Int32) (0 : Int32) (0 : Int32) (own_mk mm (1 : Int32)) (0 : Int32) (0 : Int32) ∧ ArF Z y.1.heap b28 .long 3 (own_J (own_q u0 f0 (0 : Int64)) (own_q u1 f1 (1 : Int64)) (own_q u2 f2 (2 : Int64))) ∧ ArF Z y.1.heap b53 .int 3 (own_I B0 B1 B2) ∧ Fr n0 y.2.1) (S' := fun y => y.1.setTop (mkF m 245 #[.val (.long la), .second, .val (.long lb), .second, .val (.long lc), .second, .val (.int mm), .val (.long u0), .second, .val (.long f0), .second, .val (.long u1), .second, .val (.long f1), .second, .val (.long u2), .second, .val (.long f2), .second, .val (.ref (ad 0)), .val (.ref b28), .val (.ref b53), .val (.int (1 : Int32)), .unset, .unset, .unset, .unset, .unset, .unset] [])) (fun J => ?_) (fun y hy => ?_)
  · refine Gd.go (fun _ w_k => XS.iload X80.here hx rfl (hb hby at_232) rfl (XS.iconst X80.here hx rfl (hb hby at_234) (XS.iand X80.here hx rfl (hb hby at_235) rfl w_k))) ?_
    show Gd _ _ _ _ (T80.setTop (mkF m 236 #[.val (.long la), .second, .val (.long lb), .second, .val (.long lc), .second, .val (.int mm), .val (.long u0), .second, .val (.long f0), .second, .val (.long u1), .second, .val (.long f1), .second, .val (.long u2), .second, .val (.long f2), .second, .val (.ref (ad 0)), .val (.ref b28), .val (.ref b53), .val (.int (1 : Int32)), .unset, .unset, .unset, .unset, .unset, .unset] [(.int (mm &&& (1 : Int32)))]))
    by_cases hc81 : (mm &&& (1 : Int32)) = (0 : Int32)
    · refine Gd.go (fun _ w_k => XS.ifYes X80.here hx rfl (pc0 := 236) (pc' := 245) rfl (hb hby at_236) rfl ((if0 _ _).trans (teq hc81).1) (by decide) (by decide) w_k) ?_
      show Gd _ _ _ _ (T80.setTop (mkF m 245 #[.val (.long la), .second, .val (.long lb), .second, .val (.long lc), .second, .val (.int mm), .val (.long u0), .second, .val (.long f0), .second, .val (.long u1), .second, .val (.long f1), .second, .val (.long u2), .second, .val (.long f2), .second, .val (.ref (ad 0)), .val (.ref b28), .val (.ref b53), .val (.int (1 : Int32)), .unset, .unset, .unset, .unset, .unset, .unset] []))
      have ek : own_mk mm (1 : Int32) = 0 := if_pos hc81
      exact J ⟨T80, _, (0 : Int32)⟩ ⟨X80, by rw [ek]; exact H76, xF74, ab, xN77⟩
    · refine Gd.go (fun _ w_k => XS.ifNo X80.here hx rfl (hb hby at_236) rfl ((if0 _ _).trans (feq hc81).1) w_k) ?_
      show Gd _ _ _ _ (T80.setTop (mkF m 239 #[.val (.long la), .second, .val (.long lb), .second, .val (.long lc), .second, .val (.int mm), .val (.long u0), .second, .val (.long f0), .second, .val (.long u1), .second, .val (.long f1), .second, .val (.long u2), .second, .val (.long f2), .second, .val (.ref (ad 0)), .val (.ref b28), .val (.ref b53), .val (.int (1 : Int32)), .unset, .unset, .unset, .unset, .unset, .unset] []))
      refine Gd.go (fun _ w_k => XS.aload X80.here hx rfl (hb hby at_239) rfl rfl (XS.iconst X80.here hx rfl (hb hby at_241) w_k)) ?_
      show Gd _ _ _ _ (T80.setTop (mkF m 242 #[.val (.long la), .second, .val (.long lb), .second, .val (.long lc), .second, .val (.int mm), .val (.long u0), .second, .val (.long f0), .second, .val (.long u1), .second, .val (.long f1), .second, .val (.long u2), .second, .val (.long f2), .second, .val (.ref (ad 0)), .val (.ref b28), .val (.ref b53), .val (.int (1 : Int32)), .unset, .unset, .unset, .unset, .unset, .unset] [(.int (0 : Int32)), (.ref (ad 0))]))
      obtain ⟨v82, T82, L82, X82, hQ82, st82⟩ := own_callV X80 hx hZ (C := "com/example/nearfield/nearfield/job/RankedReads") (y := (⟨"com/example/nearfield/nearfield/job/RankedReads", "rankAnew", "(I)V"⟩ : MethodName)) hown (ow hw 150 rfl) (ow hw 151 rfl) (ow hw 153 rfl) (ow hw 152 rfl) (ow hw 4 rfl) (ow hw 154 rfl) (by decide) H76.2.2.1 (W := 0) (own_c25_0 l Z a0 hw T80.heap n0 ad (ad 2) (ad 1) (0 : Int32) (3 : Int32) (3 : Int32) (0 : Int32) (0 : Int32) sa (0 : Int32) (3 : Int32) (0 : Int32) (0 : Int64) (0 : Int64) (0 : Int64) sa sb sc sa sb sc (0 : Int32) (0 : Int32) (0 : Int32) (0 : Int32) (0 : Int32) (0 : Int32) (0 : Int32) (0 : Int32) (0 : Int32) (0 : Int32) (0 : Int32) (0 : Int32) H76) rfl rfl rfl (by decide) (by decide) (g := (mkF m 242 #[.val (.long la), .second, .val (.long lb), .second, .val (.long lc), .second, .val (.int mm), .val (.long u0), .second, .val (.long f0), .second, .val (.long u1), .second, .val (.long f1), .second, .val (.long u2), .second, .val (.long f2), .second, .val (.ref (ad 0)), .val (.ref b28), .val (.ref b53), .val (.int (1 : Int32)), .unset, .unset, .unset, .unset, .unset, .unset] [(.int (0 : Int32)), (.ref (ad 0))])) rfl (by rw [hml]; rfl) (argsL := [(.int (0 : Int32))]) (rest := []) (lenOf own_pd8 rfl) rfl (Nat.le_of_eq rfl) (hb hby at_242) rfl (by decide) (by decide)
      obtain ⟨rfl, Hw0, Kw0, Nw0⟩ := hQ82
      refine Gd.go (fun _ w_k => st82 _ w_k) ?_
      show Gd _ _ _ _ (T82.setTop (mkF m 245 #[.val (.long la), .second, .val (.long lb), .second, .val (.long lc), .second, .val (.int mm), .val (.long u0), .second, .val (.long f0), .second, .val (.long u1), .second, .val (.long f1), .second, .val (.long u2), .second, .val (.long f2), .second, .val (.ref (ad 0)), .val (.ref b28), .val (.ref b53), .val (.int (1 : Int32)), .unset, .unset, .unset, .unset, .unset, .unset] []))
      have xN83 := Fr.app xN77 Nw0
      have xF84 := xF74.keep Kw0 (ninS (Ne.symm (lt_q 0 (by decide))) (ninS (Ne.symm (lt_q 10 (by decide))) nin0))
      have xF85 := ab.keep Kw0 (ninS (Ne.symm (lt_bp 0 (by decide))) (ninS (Ne.symm (lt_bp 10 (by decide))) nin0))
      have ek : own_mk mm (1 : Int32) = 1 := if_neg hc81
      exact J ⟨T82, _, (1 : Int32)⟩ ⟨X82, by rw [ek]; exact Hw0, xF84, xF85, xN83⟩
  obtain ⟨T_0, L_0, an_0⟩ := y
  obtain ⟨X_0, H_0, Q_0, P_0, N_0⟩ := hy
  dsimp only at X_0 H_0 Q_0 P_0 N_0 ⊢
  show Gd _ _ _ _ (T_0.setTop (mkF m 245 #[.val (.long la), .second, .val (.long lb), .second, .val (.long lc), .second, .val (.int mm), .val (.long u0), .second, .val (.long f0), .second, .val (.long u1), .second, .val (.long f1), .second, .val (.long u2), .second, .val (.long f2), .second, .val (.ref (ad 0)), .val (.ref b28), .val (.ref b53), .val (.int (1 : Int32)), .unset, .unset, .unset, .unset, .unset, .unset] []))
  refine Gd.viaA (A := fun y : State × List Loc × Int32 => Stand pg l ev room_1 s_ m #[(.long la), (.long lb), (.long lc), (.int mm)] bl mt cd y.1 y.2.1 13 129 ∧ own_H Z y.1.heap n0 ad (ad 2) (ad 1) (0 : Int32) (3 : Int32) (3 : Int32) y.2.2 (0 : Int32) sa (0 : Int32) (3 : Int32) (0 : Int32) (0 : Int64) (0 : Int64) (0 : Int64) sa sb sc sa sb sc (0 : Int32) (0 : Int32) (0 : Int32) (0 : Int32) (0 : Int32) (0 : Int32) (0 : Int32) (0 : Int32) (0 : Int32) (own_mk mm (1 : Int32)) (own_mk mm (2 : Int32)) (0 : Int32) ∧ ArF Z y.1.heap b28 .long 3 (own_J (own_q u0 f0 (0 : Int64)) (own_q u1 f1 (1 : Int64)) (own_q u2 f2 (2 : Int64))) ∧ ArF Z y.1.heap b53 .int 3 (own_I B0 B1 B2) ∧ Fr n0 y.2.1) (S' := fun y => y.1.setTop (mkF m 258 #[.val (.long la), .second, .val (.long lb), .second, .val (.long lc), .second, .val (.int mm), .val (.long u0), .second, .val (.long f0), .second, .val (.long u1), .second, .val (.long f1), .second, .val (.long u2), .second, .val (.long f2), .second, .val (.ref (ad 0)), .val (.ref b28), .val (.ref b53), .val (.int (1 : Int32)), .unset, .unset, .unset, .unset, .unset, .unset] [])) (fun J => ?_) (fun y hy => ?_)
  · refine Gd.go (fun _ w_k => XS.iload X_0.here hx rfl (hb hby at_245) rfl (XS.iconst X_0.here hx rfl (hb hby at_247) (XS.iand X_0.here hx rfl (hb hby at_248) rfl w_k))) ?_
    show Gd _ _ _ _ (T_0.setTop (mkF m 249 #[.val (.long la), .second, .val (.long lb), .second, .val (.long lc), .second, .val (.int mm), .val (.long u0), .second, .val (.long f0), .second, .val (.long u1), .second, .val (.long f1), .second, .val (.long u2), .second, .val (.long f2), .second, .val (.ref (ad 0)), .val (.ref b28), .val (.ref b53), .val (.int (1 : Int32)), .unset, .unset, .unset, .unset, .unset, .unset] [(.int (mm &&& (2 : Int32)))]))
    by_cases hc86 : (mm &&& (2 : Int32)) = (0 : Int32)
    · refine Gd.go (fun _ w_k => XS.ifYes X_0.here hx rfl (pc0 := 249) (pc' := 258) rfl (hb hby at_249) rfl ((if0 _ _).trans (teq hc86).1) (by decide) (by decide) w_k) ?_
      show Gd _ _ _ _ (T_0.setTop (mkF m 258 #[.val (.long la), .second, .val (.long lb), .second, .val (.long lc), .second, .val (.int mm), .val (.long u0), .second, .val (.long f0), .second, .val (.long u1), .second, .val (.long f1), .second, .val (.long u2), .second, .val (.long f2), .second, .val (.ref (ad 0)), .val (.ref b28), .val (.ref b53), .val (.int (1 : Int32)), .unset, .unset, .unset, .unset, .unset, .unset] []))
      have ek : own_mk mm (2 : Int32) = 0 := if_pos hc86
      exact J ⟨T_0, _, an_0⟩ ⟨X_0, by rw [ek]; exact H_0, Q_0, P_0, N_0⟩
    · refine Gd.go (fun _ w_k => XS.ifNo X_0.here hx rfl (hb hby at_249) rfl ((if0 _ _).trans (feq hc86).1) w_k) ?_
      show Gd _ _ _ _ (T_0.setTop (mkF m 252 #[.val (.long la), .second, .val (.long lb), .second, .val (.long lc), .second, .val (.int mm), .val (.long u0), .second, .val (.long f0), .second, .val (.long u1), .second, .val (.long f1), .second, .val (.long u2), .second, .val (.long f2), .second, .val (.ref (ad 0)), .val (.ref b28), .val (.ref b53), .val (.int (1 : Int32)), .unset, .unset, .unset, .unset, .unset, .unset] []))
      refine Gd.go (fun _ w_k => XS.aload X_0.here hx rfl (hb hby at_252) rfl rfl (XS.iconst X_0.here hx rfl (hb hby at_254) w_k)) ?_
      show Gd _ _ _ _ (T_0.setTop (mkF m 255 #[.val (.long la), .second, .val (.long lb), .second, .val (.long lc), .second, .val (.int mm), .val (.long u0), .second, .val (.long f0), .second, .val (.long u1), .second, .val (.long f1), .second, .val (.long u2), .second, .val (.long f2), .second, .val (.ref (ad 0)), .val (.ref b28), .val (.ref b53), .val (.int (1 : Int32)), .unset, .unset, .unset, .unset, .unset, .unset] [(.int (1 : Int32)), (.ref (ad 0))]))
      obtain ⟨v87, T87, L87, X87, hQ87, st87⟩ := own_callV X_0 hx hZ (C := "com/example/nearfield/nearfield/job/RankedReads") (y := (⟨"com/example/nearfield/nearfield/job/RankedReads", "rankAnew", "(I)V"⟩ : MethodName)) hown (ow hw 150 rfl) (ow hw 151 rfl) (ow hw 153 rfl) (ow hw 152 rfl) (ow hw 4 rfl) (ow hw 154 rfl) (by decide) H_0.2.2.1 (W := 0) (own_c25_1 l Z a0 hw T_0.heap n0 ad (ad 2) (ad 1) (0 : Int32) (3 : Int32) (3 : Int32) an_0 (0 : Int32) sa (0 : Int32) (3 : Int32) (0 : Int32) (0 : Int64) (0 : Int64) (0 : Int64) sa sb sc sa sb sc (0 : Int32) (0 : Int32) (0 : Int32) (0 : Int32) (0 : Int32) (0 : Int32) (0 : Int32) (0 : Int32) (0 : Int32) (own_mk mm (1 : Int32)) (0 : Int32) (0 : Int32) H_0) rfl rfl rfl (by decide) (by decide) (g := (mkF m 255 #[.val (.long la), .second, .val (.long lb), .second, .val (.long lc), .second, .val (.int mm), .val (.long u0), .second, .val (.long f0), .second, .val (.long u1), .second, .val (.long f1), .second, .val (.long u2), .second, .val (.long f2), .second, .val (.ref (ad 0)), .val (.ref b28), .val (.ref b53), .val (.int (1 : Int32)), .unset, .unset, .unset, .unset, .unset, .unset] [(.int (1 : Int32)), (.ref (ad 0))])) rfl (by rw [hml]; rfl) (argsL := [(.int (1 : Int32))]) (rest := []) (lenOf own_pd8 rfl) rfl (Nat.le_of_eq rfl) (hb hby at_255) rfl (by decide) (by decide)
      obtain ⟨rfl, Hw1, Kw1, Nw1⟩ := hQ87
      refine Gd.go (fun _ w_k => st87 _ w_k) ?_
      show Gd _ _ _ _ (T87.setTop (mkF m 258 #[.val (.long la), .second, .val (.long lb), .second, .val (.long lc), .second, .val (.int mm), .val (.long u0), .second, .val (.long f0), .second, .val (.long u1), .second, .val (.long f1), .second, .val (.long u2), .second, .val (.long f2), .second, .val (.ref (ad 0)), .val (.ref b28), .val (.ref b53), .val (.int (1 : Int32)), .unset, .unset, .unset, .unset, .unset, .unset] []))
      have xN88 := Fr.app N_0 Nw1
      have xF89 := Q_0.keep Kw1 (ninS (Ne.symm (lt_q 0 (by decide))) (ninS (Ne.symm (lt_q 10 (by decide))) nin0))
      have xF90 := P_0.keep Kw1 (ninS (Ne.symm (lt_bp 0 (by decide))) (ninS (Ne.symm (lt_bp 10 (by decide))) nin0))
      have ek : own_mk mm (2 : Int32) = 1 := if_neg hc86
      exact J ⟨T87, _, (1 : Int32)⟩ ⟨X87, by rw [ek]; exact Hw1, xF89, xF90, xN88⟩
  obtain ⟨T_1, L_1, an_1⟩ := y
  obtain ⟨X_1, H_1, Q_1, P_1, N_1⟩ := hy
  dsimp only at X_1 H_1 Q_1 P_1 N_1 ⊢
  show Gd _ _ _ _ (T_1.setTop (mkF m 258 #[.val (.long la), .second, .val (.long lb), .second, .val (.long lc), .second, .val (.int mm), .val (.long u0), .second, .val (.long f0), .second, .val (.long u1), .second, .val (.long f1), .second, .val (.long u2), .second, .val (.long f2), .second, .val (.ref (ad 0)), .val (.ref b28), .val (.ref b53), .val (.int (1 : Int32)), .unset, .unset, .unset, .unset, .unset, .unset] []))
  refine Gd.viaA (A := fun y : State × List Loc × Int32 => Stand pg l ev room_1 s_ m #[(.long la), (.long lb), (.long lc), (.int mm)] bl mt cd y.1 y.2.1 13 129 ∧ own_H Z y.1.heap n0 ad (ad 2) (ad 1) (0 : Int32) (3 : Int32) (3 : Int32) y.2.2 (0 : Int32) sa (0 : Int32) (3 : Int32) (0 : Int32) (0 : Int64) (0 : Int64) (0 : Int64) sa sb sc sa sb sc (0 : Int32) (0 : Int32) (0 : Int32) (0 : Int32) (0 : Int32) (0 : Int32) (0 : Int32) (0 : Int32) (0 : Int32) (own_mk mm (1 : Int32)) (own_mk mm (2 : Int32)) (own_mk mm (4 : Int32)) ∧ ArF Z y.1.heap b28 .long 3 (own_J (own_q u0 f0 (0 : Int64)) (own_q u1 f1 (1 : Int64)) (own_q u2 f2 (2 : Int64))) ∧ ArF Z y.1.heap b53 .int 3 (own_I B0 B1 B2) ∧ Fr n0 y.2.1) (S' := fun y => y.1.setTop (mkF m 271 #[.val (.long la), .second, .val (.long lb), .second, .val (.long lc), .second, .val (.int mm), .val (.long u0), .second, .val (.long f0), .second, .val (.long u1), .second, .val (.long f1), .second, .val (.long u2), .second, .val (.long f2), .second, .val (.ref (ad 0)), .val (.ref b28), .val (.ref b53), .val (.int (1 : Int32)), .unset, .unset, .unset, .unset, .unset, .unset] [])) (fun J => ?_) (fun y hy => ?_)
  · refine Gd.go (fun _ w_k => XS.iload X_1.here hx rfl (hb hby at_258) rfl (XS.iconst X_1.here hx rfl (hb hby at_260) (XS.iand X_1.here hx rfl (hb hby at_261) rfl w_k))) ?_
    show Gd _ _ _ _ (T_1.setTop (mkF m 262 #[.val (.long la), .second, .val (.long lb), .second, .val (.long lc), .second, .val (.int mm), .val (.long u0), .second, .val (.long f0), .second, .val (.long u1), .second, .val (.long f1), .second, .val (.long u2), .second, .val (.long f2), .second, .val (.ref (ad 0)), .val (.ref b28), .val (.ref b53), .val (.int (1 : Int32)), .unset, .unset, .unset, .unset, .unset, .unset] [(.int (mm &&& (4 : Int32)))]))
    by_cases hc91 : (mm &&& (4 : Int32)) = (0 : Int32)
    · refine Gd.go (fun _ w_k => XS.ifYes X_1.here hx rfl (pc0 := 262) (pc' := 271) rfl (hb hby at_262) rfl ((if0 _ _).trans (teq hc91).1) (by decide) (by decide) w_k) ?_
      show Gd _ _ _ _ (T_1.setTop (mkF m 271 #[.val (.long la), .second, .val (.long lb), .second, .val (.long lc), .second, .val (.int mm), .val (.long u0), .second, .val (.long f0), .second, .val (.long u1), .second, .val (.long f1), .second, .val (.long u2), .second, .val (.long f2), .second, .val (.ref (ad 0)), .val (.ref b28), .val (.ref b53), .val (.int (1 : Int32)), .unset, .unset, .unset, .unset, .unset, .unset] []))
      have ek : own_mk mm (4 : Int32) = 0 := if_pos hc91
      exact J ⟨T_1, _, an_1⟩ ⟨X_1, by rw [ek]; exact H_1, Q_1, P_1, N_1⟩
    · refine Gd.go (fun _ w_k => XS.ifNo X_1.here hx rfl (hb hby at_262) rfl ((if0 _ _).trans (feq hc91).1) w_k) ?_
      show Gd _ _ _ _ (T_1.setTop (mkF m 265 #[.val (.long la), .second, .val (.long lb), .second, .val (.long lc), .second, .val (.int mm), .val (.long u0), .second, .val (.long f0), .second, .val (.long u1), .second, .val (.long f1), .second, .val (.long u2), .second, .val (.long f2), .second, .val (.ref (ad 0)), .val (.ref b28), .val (.ref b53), .val (.int (1 : Int32)), .unset, .unset, .unset, .unset, .unset, .unset] []))
      refine Gd.go (fun _ w_k => XS.aload X_1.here hx rfl (hb hby at_265) rfl rfl (XS.iconst X_1.here hx rfl (hb hby at_267) w_k)) ?_
      show Gd _ _ _ _ (T_1.setTop (mkF m 268 #[.val (.long la), .second, .val (.long lb), .second, .val (.long lc), .second, .val (.int mm), .val (.long u0), .second, .val (.long f0), .second, .val (.long u1), .second, .val (.long f1), .second, .val (.long u2), .second, .val (.long f2), .second, .val (.ref (ad 0)), .val (.ref b28), .val (.ref b53), .val (.int (1 : Int32)), .unset, .unset, .unset, .unset, .unset, .unset] [(.int (2 : Int32)), (.ref (ad 0))]))
      obtain ⟨v92, T92, L92, X92, hQ92, st92⟩ := own_callV X_1 hx hZ (C := "com/example/nearfield/nearfield/job/RankedReads") (y := (⟨"com/example/nearfield/nearfield/job/RankedReads", "rankAnew", "(I)V"⟩ : MethodName)) hown (ow hw 150 rfl) (ow hw 151 rfl) (ow hw 153 rfl) (ow hw 152 rfl) (ow hw 4 rfl) (ow hw 154 rfl) (by decide) H_1.2.2.1 (W := 0) (own_c25_2 l Z a0 hw T_1.heap n0 ad (ad 2) (ad 1) (0 : Int32) (3 : Int32) (3 : Int32) an_1 (0 : Int32) sa (0 : Int32) (3 : Int32) (0 : Int32) (0 : Int64) (0 : Int64) (0 : Int64) sa sb sc sa sb sc (0 : Int32) (0 : Int32) (0 : Int32) (0 : Int32) (0 : Int32) (0 : Int32) (0 : Int32) (0 : Int32) (0 : Int32) (own_mk mm (1 : Int32)) (own_mk mm (2 : Int32)) (0 : Int32) H_1) rfl rfl rfl (by decide) (by decide) (g := (mkF m 268 #[.val (.long la), .second, .val (.long lb), .second, .val (.long lc), .second, .val (.int mm), .val (.long u0), .second, .val (.long f0), .second, .val (.long u1), .second, .val (.long f1), .second, .val (.long u2), .second, .val (.long f2), .second, .val (.ref (ad 0)), .val (.ref b28), .val (.ref b53), .val (.int (1 : Int32)), .unset, .unset, .unset, .unset, .unset, .unset] [(.int (2 : Int32)), (.ref (ad 0))])) rfl (by rw [hml]; rfl) (argsL := [(.int (2 : Int32))]) (rest := []) (lenOf own_pd8 rfl) rfl (Nat.le_of_eq rfl) (hb hby at_268) rfl (by decide) (by decide)
      obtain ⟨rfl, Hw2, Kw2, Nw2⟩ := hQ92
      refine Gd.go (fun _ w_k => st92 _ w_k) ?_
      show Gd _ _ _ _ (T92.setTop (mkF m 271 #[.val (.long la), .second, .val (.long lb), .second, .val (.long lc), .second, .val (.int mm), .val (.long u0), .second, .val (.long f0), .second, .val (.long u1), .second, .val (.long f1), .second, .val (.long u2), .second, .val (.long f2), .second, .val (.ref (ad 0)), .val (.ref b28), .val (.ref b53), .val (.int (1 : Int32)), .unset, .unset, .unset, .unset, .unset, .unset] []))
      have xN93 := Fr.app N_1 Nw2
      have xF94 := Q_1.keep Kw2 (ninS (Ne.symm (lt_q 0 (by decide))) (ninS (Ne.symm (lt_q 10 (by decide))) nin0))
      have xF95 := P_1.keep Kw2 (ninS (Ne.symm (lt_bp 0 (by decide))) (ninS (Ne.symm (lt_bp 10 (by decide))) nin0))
      have ek : own_mk mm (4 : Int32) = 1 := if_neg hc91
      exact J ⟨T92, _, (1 : Int32)⟩ ⟨X92, by rw [ek]; exact Hw2, xF94, xF95, xN93⟩
  obtain ⟨T_2, L_2, an_2⟩ := y
  obtain ⟨X_2, H_2, Q_2, P_2, N_2⟩ := hy
  dsimp only at X_2 H_2 Q_2 P_2 N_2 ⊢
  show Gd _ _ _ _ (T_2.setTop (mkF m 271 #[.val (.long la), .second, .val (.long lb), .second, .val (.long lc), .second, .val (.int mm), .val (.long u0), .second, .val (.long f0), .second, .val (.long u1), .second, .val (.long f1), .second, .val (.long u2), .second, .val (.long f2), .second, .val (.ref (ad 0)), .val (.ref b28), .val (.ref b53), .val (.int (1 : Int32)), .unset, .unset, .unset, .unset, .unset, .unset] []))
  by_cases w1 : (own_k (own_mk mm (1 : Int32)) (own_mk mm (2 : Int32)) (own_mk mm (4 : Int32)) ((sb &&& (3 : Int64)).toInt32)) = (0 : Int32)
  · have v1 : (own_k (own_mk mm (1 : Int32)) (own_mk mm (2 : Int32)) (own_mk mm (4 : Int32)) B1) = (0 : Int32) := by rw [← eB1]; exact w1
    by_cases w2 : (own_k (own_mk mm (1 : Int32)) (own_mk mm (2 : Int32)) (own_mk mm (4 : Int32)) ((sc &&& (3 : Int64)).toInt32)) = (0 : Int32)
    · have v2 : (own_k (own_mk mm (1 : Int32)) (own_mk mm (2 : Int32)) (own_mk mm (4 : Int32)) B2) = (0 : Int32) := by rw [← eB2]; exact w2
      refine Gd.go (fun _ w_k => XS.iload X_2.here hx rfl (hb hby at_271) rfl (XS.aload X_2.here hx rfl (hb hby at_273) rfl rfl (XS.iconst X_2.here hx rfl (hb hby at_275) (own_ldI X_2 hx hZ rfl P_2 (j := (1 : Int32)) (by decide) (by decide) (v := (.int B1)) rfl (g := (mkF m 276 #[.val (.long la), .second, .val (.long lb), .second, .val (.long lc), .second, .val (.int mm), .val (.long u0), .second, .val (.long f0), .second, .val (.long u1), .second, .val (.long f1), .second, .val (.long u2), .second, .val (.long f2), .second, .val (.ref (ad 0)), .val (.ref b28), .val (.ref b53), .val (.int (1 : Int32)), .unset, .unset, .unset, .unset, .unset, .unset] [(.int (1 : Int32)), (.ref b53), (.int mm)])) rfl rfl (hb hby at_276) _ (XS.ishr X_2.here hx rfl (hb hby at_277) rfl (XS.iconst X_2.here hx rfl (hb hby at_278) (XS.iand X_2.here hx rfl (hb hby at_279) rfl (XS.ifNo X_2.here hx rfl (hb hby at_280) rfl ((if0 _ _).trans (teq ((own_bitk mm gB1).mpr v1)).2) w_k)))))))) ?_
      show Gd _ _ _ _ (T_2.setTop (mkF m 283 #[.val (.long la), .second, .val (.long lb), .second, .val (.long lc), .second, .val (.int mm), .val (.long u0), .second, .val (.long f0), .second, .val (.long u1), .second, .val (.long f1), .second, .val (.long u2), .second, .val (.long f2), .second, .val (.ref (ad 0)), .val (.ref b28), .val (.ref b53), .val (.int (1 : Int32)), .unset, .unset, .unset, .unset, .unset, .unset] []))
      refine Gd.go (fun _ w_k => XS.iconst X_2.here hx rfl (hb hby at_283) (XS.goto X_2.here hx rfl (pc0 := 284) (pc' := 288) rfl (hb hby at_284) (by decide) (by decide) (XS.istore X_2.here hx rfl (hb hby at_288) rfl (l' := #[.val (.long la), .second, .val (.long lb), .second, .val (.long lc), .second, .val (.int mm), .val (.long u0), .second, .val (.long f0), .second, .val (.long u1), .second, .val (.long f1), .second, .val (.long u2), .second, .val (.long f2), .second, .val (.ref (ad 0)), .val (.ref b28), .val (.ref b53), .val (.int (1 : Int32)), .val (.int (1 : Int32)), .unset, .unset, .unset, .unset, .unset]) rfl (XS.iload X_2.here hx rfl (hb hby at_290) rfl (XS.aload X_2.here hx rfl (hb hby at_292) rfl rfl (XS.iconst X_2.here hx rfl (hb hby at_294) (own_ldI X_2 hx hZ rfl P_2 (j := (2 : Int32)) (by decide) (by decide) (v := (.int B2)) rfl (g := (mkF m 295 #[.val (.long la), .second, .val (.long lb), .second, .val (.long lc), .second, .val (.int mm), .val (.long u0), .second, .val (.long f0), .second, .val (.long u1), .second, .val (.long f1), .second, .val (.long u2), .second, .val (.long f2), .second, .val (.ref (ad 0)), .val (.ref b28), .val (.ref b53), .val (.int (1 : Int32)), .val (.int (1 : Int32)), .unset, .unset, .unset, .unset, .unset] [(.int (2 : Int32)), (.ref b53), (.int mm)])) rfl rfl (hb hby at_295) _ (XS.ishr X_2.here hx rfl (hb hby at_296) rfl (XS.iconst X_2.here hx rfl (hb hby at_297) (XS.iand X_2.here hx rfl (hb hby at_298) rfl (XS.ifNo X_2.here hx rfl (hb hby at_299) rfl ((if0 _ _).trans (teq ((own_bitk mm gB2).mpr v2)).2) w_k))))))))))) ?_
      show Gd _ _ _ _ (T_2.setTop (mkF m 302 #[.val (.long la), .second, .val (.long lb), .second, .val (.long lc), .second, .val (.int mm), .val (.long u0), .second, .val (.long f0), .second, .val (.long u1), .second, .val (.long f1), .second, .val (.long u2), .second, .val (.long f2), .second, .val (.ref (ad 0)), .val (.ref b28), .val (.ref b53), .val (.int (1 : Int32)), .val (.int (1 : Int32)), .unset, .unset, .unset, .unset, .unset] []))
      refine Gd.go (fun _ w_k => XS.iconst X_2.here hx rfl (hb hby at_302) (XS.goto X_2.here hx rfl (pc0 := 303) (pc' := 307) rfl (hb hby at_303) (by decide) (by decide) (XS.istore X_2.here hx rfl (hb hby at_307) rfl (l' := #[.val (.long la), .second, .val (.long lb), .second, .val (.long lc), .second, .val (.int mm), .val (.long u0), .second, .val (.long f0), .second, .val (.long u1), .second, .val (.long f1), .second, .val (.long u2), .second, .val (.long f2), .second, .val (.ref (ad 0)), .val (.ref b28), .val (.ref b53), .val (.int (1 : Int32)), .val (.int (1 : Int32)), .val (.int (1 : Int32)), .unset, .unset, .unset, .unset]) rfl (XS.aload X_2.here hx rfl (hb hby at_309) rfl rfl w_k)))) ?_
      show Gd _ _ _ _ (T_2.setTop (mkF m 311 #[.val (.long la), .second, .val (.long lb), .second, .val (.long lc), .second, .val (.int mm), .val (.long u0), .second, .val (.long f0), .second, .val (.long u1), .second, .val (.long f1), .second, .val (.long u2), .second, .val (.long f2), .second, .val (.ref (ad 0)), .val (.ref b28), .val (.ref b53), .val (.int (1 : Int32)), .val (.int (1 : Int32)), .val (.int (1 : Int32)), .unset, .unset, .unset, .unset] [(.ref (ad 0))]))
      obtain ⟨v97, T97, L97, X97, hQ97, st97⟩ := own_callV X_2 hx hZ (C := "com/example/nearfield/nearfield/job/RankedReads") (y := (⟨"com/example/nearfield/nearfield/job/RankedReads", "next", "()V"⟩ : MethodName)) hown (ow hw 155 rfl) (ow hw 127 rfl) (ow hw 129 rfl) (ow hw 128 rfl) (ow hw 4 rfl) (ow hw 130 rfl) (by decide) H_2.2.2.1 (W := 0) (own_c20_0 l Z a0 hw T_2.heap n0 ad (ad 1) (0 : Int32) (3 : Int32) (3 : Int32) an_2 sa (0 : Int32) (0 : Int32) (0 : Int64) (0 : Int64) (0 : Int64) sa sb sc sa sb sc (0 : Int32) (0 : Int32) (0 : Int32) (0 : Int32) (0 : Int32) (0 : Int32) (own_mk mm (1 : Int32)) (own_mk mm (2 : Int32)) (own_mk mm (4 : Int32)) (own_ixL eB0 gB0) (own_ixL eB1 gB1) (own_ixL eB2 gB2) H_2) rfl rfl rfl (by decide) (by decide) (g := (mkF m 311 #[.val (.long la), .second, .val (.long lb), .second, .val (.long lc), .second, .val (.int mm), .val (.long u0), .second, .val (.long f0), .second, .val (.long u1), .second, .val (.long f1), .second, .val (.long u2), .second, .val (.long f2), .second, .val (.ref (ad 0)), .val (.ref b28), .val (.ref b53), .val (.int (1 : Int32)), .val (.int (1 : Int32)), .val (.int (1 : Int32)), .unset, .unset, .unset, .unset] [(.ref (ad 0))])) rfl (by rw [hml]; rfl) (argsL := []) (rest := []) (lenOf own_pd7 rfl) rfl (Nat.le_of_eq rfl) (hb hby at_311) rfl (by decide) (by decide)
      obtain ⟨rfl, Hn96, Kn96, Nn96⟩ := hQ97
      refine Gd.go (fun _ w_k => st97 _ w_k) ?_
      show Gd _ _ _ _ (T97.setTop (mkF m 314 #[.val (.long la), .second, .val (.long lb), .second, .val (.long lc), .second, .val (.int mm), .val (.long u0), .second, .val (.long f0), .second, .val (.long u1), .second, .val (.long f1), .second, .val (.long u2), .second, .val (.long f2), .second, .val (.ref (ad 0)), .val (.ref b28), .val (.ref b53), .val (.int (1 : Int32)), .val (.int (1 : Int32)), .val (.int (1 : Int32)), .unset, .unset, .unset, .unset] []))
      have xN98 := Fr.app N_2 Nn96
      have xF99 := Q_2.keep Kn96 (ninS (Ne.symm (lt_q 0 (by decide))) nin0)
      have xF100 := P_2.keep Kn96 (ninS (Ne.symm (lt_bp 0 (by decide))) nin0)
      rw [if_pos w1, if_pos w1] at Hn96
      refine Gd.go (fun _ w_k => XS.iload X97.here hx rfl (hb hby at_314) rfl (XS.ifNo X97.here hx rfl (hb hby at_316) rfl ((if0 _ _).trans (feq (by decide)).1) w_k)) ?_
      show Gd _ _ _ _ (T97.setTop (mkF m 319 #[.val (.long la), .second, .val (.long lb), .second, .val (.long lc), .second, .val (.int mm), .val (.long u0), .second, .val (.long f0), .second, .val (.long u1), .second, .val (.long f1), .second, .val (.long u2), .second, .val (.long f2), .second, .val (.ref (ad 0)), .val (.ref b28), .val (.ref b53), .val (.int (1 : Int32)), .val (.int (1 : Int32)), .val (.int (1 : Int32)), .unset, .unset, .unset, .unset] []))
      refine Gd.go (fun _ w_k => XS.iconst X97.here hx rfl (hb hby at_319) (XS.goto X97.here hx rfl (pc0 := 320) (pc' := 333) rfl (hb hby at_320) (by decide) (by decide) (XS.istore X97.here hx rfl (hb hby at_333) rfl (l' := #[.val (.long la), .second, .val (.long lb), .second, .val (.long lc), .second, .val (.int mm), .val (.long u0), .second, .val (.long f0), .second, .val (.long u1), .second, .val (.long f1), .second, .val (.long u2), .second, .val (.long f2), .second, .val (.ref (ad 0)), .val (.ref b28), .val (.ref b53), .val (.int (1 : Int32)), .val (.int (1 : Int32)), .val (.int (1 : Int32)), .val (.int (1 : Int32)), .unset, .unset, .unset]) rfl (XS.aload X97.here hx rfl (hb hby at_335) rfl rfl w_k)))) ?_
      show Gd _ _ _ _ (T97.setTop (mkF m 337 #[.val (.long la), .second, .val (.long lb), .second, .val (.long lc), .second, .val (.int mm), .val (.long u0), .second, .val (.long f0), .second, .val (.long u1), .second, .val (.long f1), .second, .val (.long u2), .second, .val (.long f2), .second, .val (.ref (ad 0)), .val (.ref b28), .val (.ref b53), .val (.int (1 : Int32)), .val (.int (1 : Int32)), .val (.int (1 : Int32)), .val (.int (1 : Int32)), .unset, .unset, .unset] [(.ref (ad 0))]))
      obtain ⟨T101, X101, e101, st101⟩ := own_callVP X97 hx hZ (C := "com/example/nearfield/nearfield/job/RankedReads") (y := (⟨"com/example/nearfield/nearfield/job/RankedReads", "index", "()I"⟩ : MethodName)) hown (ow hw 140 rfl) (ow hw 141 rfl) (ow hw 143 rfl) (ow hw 142 rfl) (ow hw 4 rfl) (ow hw 144 rfl) (by decide) Hn96.2.2.1 (W := 0) (own_c23 l Z a0 hw T97.heap n0 ad (ad 2) (ad 1) (0 : Int32) (3 : Int32) (3 : Int32) an_2 (1 : Int32) sb (0 : Int32) (3 : Int32) (0 : Int32) (0 : Int64) (0 : Int64) (0 : Int64) sa sb sc sa sb sc (0 : Int32) (0 : Int32) (0 : Int32) (0 : Int32) (0 : Int32) (0 : Int32) (0 : Int32) (0 : Int32) (0 : Int32) (own_mk mm (1 : Int32)) (own_mk mm (2 : Int32)) (own_mk mm (4 : Int32)) Hn96) rfl rfl rfl (by decide) (by decide) (g := (mkF m 337 #[.val (.long la), .second, .val (.long lb), .second, .val (.long lc), .second, .val (.int mm), .val (.long u0), .second, .val (.long f0), .second, .val (.long u1), .second, .val (.long f1), .second, .val (.long u2), .second, .val (.long f2), .second, .val (.ref (ad 0)), .val (.ref b28), .val (.ref b53), .val (.int (1 : Int32)), .val (.int (1 : Int32)), .val (.int (1 : Int32)), .val (.int (1 : Int32)), .unset, .unset, .unset] [(.ref (ad 0))])) rfl (by rw [hml]; rfl) (argsL := []) (rest := []) (lenOf own_pd13 rfl) rfl (Nat.le_of_eq rfl) (hb hby at_337) rfl
      refine Gd.go (fun _ w_k => st101 _ (XS.istore X101.here hx rfl (hb hby at_340) rfl (l' := #[.val (.long la), .second, .val (.long lb), .second, .val (.long lc), .second, .val (.int mm), .val (.long u0), .second, .val (.long f0), .second, .val (.long u1), .second, .val (.long f1), .second, .val (.long u2), .second, .val (.long f2), .second, .val (.ref (ad 0)), .val (.ref b28), .val (.ref b53), .val (.int (1 : Int32)), .val (.int (1 : Int32)), .val (.int (1 : Int32)), .val (.int (1 : Int32)), .val (.int (1 : Int32)), .unset, .unset]) rfl (XS.iload X101.here hx rfl (hb hby at_342) rfl (XS.ifNo X101.here hx rfl (hb hby at_344) rfl ((if0 _ _).trans (feq (by decide)).1) w_k)))) ?_
      show Gd _ _ _ _ (T101.setTop (mkF m 347 #[.val (.long la), .second, .val (.long lb), .second, .val (.long lc), .second, .val (.int mm), .val (.long u0), .second, .val (.long f0), .second, .val (.long u1), .second, .val (.long f1), .second, .val (.long u2), .second, .val (.long f2), .second, .val (.ref (ad 0)), .val (.ref b28), .val (.ref b53), .val (.int (1 : Int32)), .val (.int (1 : Int32)), .val (.int (1 : Int32)), .val (.int (1 : Int32)), .val (.int (1 : Int32)), .unset, .unset] []))
      refine Gd.go (fun _ w_k => XS.iload X101.here hx rfl (hb hby at_347) rfl (XS.iload X101.here hx rfl (hb hby at_349) rfl (XS.icmpNo X101.here hx rfl (hb hby at_351) rfl (teq (by decide)).2 w_k))) ?_
      show Gd _ _ _ _ (T101.setTop (mkF m 354 #[.val (.long la), .second, .val (.long lb), .second, .val (.long lc), .second, .val (.int mm), .val (.long u0), .second, .val (.long f0), .second, .val (.long u1), .second, .val (.long f1), .second, .val (.long u2), .second, .val (.long f2), .second, .val (.ref (ad 0)), .val (.ref b28), .val (.ref b53), .val (.int (1 : Int32)), .val (.int (1 : Int32)), .val (.int (1 : Int32)), .val (.int (1 : Int32)), .val (.int (1 : Int32)), .unset, .unset] []))
      refine Gd.go (fun _ w_k => XS.iconst X101.here hx rfl (hb hby at_354) (XS.goto X101.here hx rfl (pc0 := 355) (pc' := 359) rfl (hb hby at_355) (by decide) (by decide) (XS.istore X101.here hx rfl (hb hby at_359) rfl (l' := #[.val (.long la), .second, .val (.long lb), .second, .val (.long lc), .second, .val (.int mm), .val (.long u0), .second, .val (.long f0), .second, .val (.long u1), .second, .val (.long f1), .second, .val (.long u2), .second, .val (.long f2), .second, .val (.ref (ad 0)), .val (.ref b28), .val (.ref b53), .val (.int (1 : Int32)), .val (.int (1 : Int32)), .val (.int (1 : Int32)), .val (.int (1 : Int32)), .val (.int (1 : Int32)), .unset, .unset]) rfl (XS.iload X101.here hx rfl (hb hby at_361) rfl (XS.iconst X101.here hx rfl (hb hby at_363) (XS.icmpYes X101.here hx rfl (pc0 := 364) (pc' := 386) rfl (hb hby at_364) rfl (feq (by decide)).2 (by decide) (by decide) w_k)))))) ?_
      show Gd _ _ _ _ (T101.setTop (mkF m 386 #[.val (.long la), .second, .val (.long lb), .second, .val (.long lc), .second, .val (.int mm), .val (.long u0), .second, .val (.long f0), .second, .val (.long u1), .second, .val (.long f1), .second, .val (.long u2), .second, .val (.long f2), .second, .val (.ref (ad 0)), .val (.ref b28), .val (.ref b53), .val (.int (1 : Int32)), .val (.int (1 : Int32)), .val (.int (1 : Int32)), .val (.int (1 : Int32)), .val (.int (1 : Int32)), .unset, .unset] []))
      refine Gd.go (fun _ w_k => XS.iload X101.here hx rfl (hb hby at_386) rfl (XS.ifNo X101.here hx rfl (hb hby at_388) rfl ((if0 _ _).trans (feq (by decide)).1) w_k)) ?_
      show Gd _ _ _ _ (T101.setTop (mkF m 391 #[.val (.long la), .second, .val (.long lb), .second, .val (.long lc), .second, .val (.int mm), .val (.long u0), .second, .val (.long f0), .second, .val (.long u1), .second, .val (.long f1), .second, .val (.long u2), .second, .val (.long f2), .second, .val (.ref (ad 0)), .val (.ref b28), .val (.ref b53), .val (.int (1 : Int32)), .val (.int (1 : Int32)), .val (.int (1 : Int32)), .val (.int (1 : Int32)), .val (.int (1 : Int32)), .unset, .unset] []))
      refine Gd.go (fun _ w_k => XS.aload X101.here hx rfl (hb hby at_391) rfl rfl w_k) ?_
      show Gd _ _ _ _ (T101.setTop (mkF m 393 #[.val (.long la), .second, .val (.long lb), .second, .val (.long lc), .second, .val (.int mm), .val (.long u0), .second, .val (.long f0), .second, .val (.long u1), .second, .val (.long f1), .second, .val (.long u2), .second, .val (.long f2), .second, .val (.ref (ad 0)), .val (.ref b28), .val (.ref b53), .val (.int (1 : Int32)), .val (.int (1 : Int32)), .val (.int (1 : Int32)), .val (.int (1 : Int32)), .val (.int (1 : Int32)), .unset, .unset] [(.ref (ad 0))]))
      obtain ⟨T102, X102, e102, st102⟩ := own_callVP X101 hx hZ (C := "com/example/nearfield/nearfield/job/RankedReads") (y := (⟨"com/example/nearfield/nearfield/job/RankedReads", "packedNext", "()J"⟩ : MethodName)) hown (ow hw 145 rfl) (ow hw 146 rfl) (ow hw 148 rfl) (ow hw 147 rfl) (ow hw 4 rfl) (ow hw 149 rfl) (by decide) Hn96.2.2.1 (W := 0) (own_c24 l Z a0 hw T97.heap n0 ad (ad 2) (ad 1) (0 : Int32) (3 : Int32) (3 : Int32) an_2 (1 : Int32) sb (0 : Int32) (3 : Int32) (0 : Int32) (0 : Int64) (0 : Int64) (0 : Int64) sa sb sc sa sb sc (0 : Int32) (0 : Int32) (0 : Int32) (0 : Int32) (0 : Int32) (0 : Int32) (0 : Int32) (0 : Int32) (0 : Int32) (own_mk mm (1 : Int32)) (own_mk mm (2 : Int32)) (own_mk mm (4 : Int32)) Hn96) rfl rfl e101 (by decide) (by decide) (g := (mkF m 393 #[.val (.long la), .second, .val (.long lb), .second, .val (.long lc), .second, .val (.int mm), .val (.long u0), .second, .val (.long f0), .second, .val (.long u1), .second, .val (.long f1), .second, .val (.long u2), .second, .val (.long f2), .second, .val (.ref (ad 0)), .val (.ref b28), .val (.ref b53), .val (.int (1 : Int32)), .val (.int (1 : Int32)), .val (.int (1 : Int32)), .val (.int (1 : Int32)), .val (.int (1 : Int32)), .unset, .unset] [(.ref (ad 0))])) rfl (by rw [hml]; rfl) (argsL := []) (rest := []) (lenOf own_pd14 rfl) rfl (Nat.le_of_eq rfl) (hb hby at_393) rfl
      refine Gd.go (fun _ w_k => st102 _ (XS.aload X102.here hx rfl (hb hby at_396) rfl rfl (XS.aload X102.here hx rfl (hb hby at_398) rfl rfl (XS.iload X102.here hx rfl (hb hby at_400) rfl (own_ldI X102 hx hZ e102 xF100 (j := (1 : Int32)) (by decide) (by decide) (v := (.int B1)) rfl (g := (mkF m 402 #[.val (.long la), .second, .val (.long lb), .second, .val (.long lc), .second, .val (.int mm), .val (.long u0), .second, .val (.long f0), .second, .val (.long u1), .second, .val (.long f1), .second, .val (.long u2), .second, .val (.long f2), .second, .val (.ref (ad 0)), .val (.ref b28), .val (.ref b53), .val (.int (1 : Int32)), .val (.int (1 : Int32)), .val (.int (1 : Int32)), .val (.int (1 : Int32)), .val (.int (1 : Int32)), .unset, .unset] [(.int (1 : Int32)), (.ref b53), (.ref b28), (.long sb)])) rfl rfl (hb hby at_402) _ (own_ldJ X102 hx hZ e102 xF99 (j := B1) gB1.1 gB1.2 (v := (.long sb)) eJ1 (g := (mkF m 403 #[.val (.long la), .second, .val (.long lb), .second, .val (.long lc), .second, .val (.int mm), .val (.long u0), .second, .val (.long f0), .second, .val (.long u1), .second, .val (.long f1), .second, .val (.long u2), .second, .val (.long f2), .second, .val (.ref (ad 0)), .val (.ref b28), .val (.ref b53), .val (.int (1 : Int32)), .val (.int (1 : Int32)), .val (.int (1 : Int32)), .val (.int (1 : Int32)), .val (.int (1 : Int32)), .unset, .unset] [(.int B1), (.ref b28), (.long sb)])) rfl rfl (hb hby at_403) _ (XS.lcmp X102.here hx rfl (hb hby at_404) rfl (XS.ifNo X102.here hx rfl (hb hby at_405) rfl ((if0 _ _).trans (teq ((lw_eq _ _).mpr rfl)).2) w_k)))))))) ?_
      show Gd _ _ _ _ (T102.setTop (mkF m 408 #[.val (.long la), .second, .val (.long lb), .second, .val (.long lc), .second, .val (.int mm), .val (.long u0), .second, .val (.long f0), .second, .val (.long u1), .second, .val (.long f1), .second, .val (.long u2), .second, .val (.long f2), .second, .val (.ref (ad 0)), .val (.ref b28), .val (.ref b53), .val (.int (1 : Int32)), .val (.int (1 : Int32)), .val (.int (1 : Int32)), .val (.int (1 : Int32)), .val (.int (1 : Int32)), .unset, .unset] []))
      refine Gd.go (fun _ w_k => XS.iconst X102.here hx rfl (hb hby at_408) (XS.goto X102.here hx rfl (pc0 := 409) (pc' := 413) rfl (hb hby at_409) (by decide) (by decide) (XS.istore X102.here hx rfl (hb hby at_413) rfl (l' := #[.val (.long la), .second, .val (.long lb), .second, .val (.long lc), .second, .val (.int mm), .val (.long u0), .second, .val (.long f0), .second, .val (.long u1), .second, .val (.long f1), .second, .val (.long u2), .second, .val (.long f2), .second, .val (.ref (ad 0)), .val (.ref b28), .val (.ref b53), .val (.int (1 : Int32)), .val (.int (1 : Int32)), .val (.int (1 : Int32)), .val (.int (1 : Int32)), .val (.int (1 : Int32)), .unset, .unset]) rfl (XS.aload X102.here hx rfl (hb hby at_415) rfl rfl w_k)))) ?_
      show Gd _ _ _ _ (T102.setTop (mkF m 417 #[.val (.long la), .second, .val (.long lb), .second, .val (.long lc), .second, .val (.int mm), .val (.long u0), .second, .val (.long f0), .second, .val (.long u1), .second, .val (.long f1), .second, .val (.long u2), .second, .val (.long f2), .second, .val (.ref (ad 0)), .val (.ref b28), .val (.ref b53), .val (.int (1 : Int32)), .val (.int (1 : Int32)), .val (.int (1 : Int32)), .val (.int (1 : Int32)), .val (.int (1 : Int32)), .unset, .unset] [(.ref (ad 0))]))
      obtain ⟨v104, T104, L104, X104, hQ104, st104⟩ := own_callV X102 hx hZ (C := "com/example/nearfield/nearfield/job/RankedReads") (y := (⟨"com/example/nearfield/nearfield/job/RankedReads", "next", "()V"⟩ : MethodName)) hown (ow hw 155 rfl) (ow hw 127 rfl) (ow hw 129 rfl) (ow hw 128 rfl) (ow hw 4 rfl) (ow hw 130 rfl) (by decide) Hn96.2.2.1 (W := 0) (own_c20_1 l Z a0 hw T97.heap n0 ad (ad 1) (0 : Int32) (3 : Int32) (3 : Int32) an_2 sb (0 : Int32) (0 : Int32) (0 : Int64) (0 : Int64) (0 : Int64) sa sb sc sa sb sc (0 : Int32) (0 : Int32) (0 : Int32) (0 : Int32) (0 : Int32) (0 : Int32) (own_mk mm (1 : Int32)) (own_mk mm (2 : Int32)) (own_mk mm (4 : Int32)) (own_ixL eB0 gB0) (own_ixL eB1 gB1) (own_ixL eB2 gB2) Hn96) rfl rfl e102 (by decide) (by decide) (g := (mkF m 417 #[.val (.long la), .second, .val (.long lb), .second, .val (.long lc), .second, .val (.int mm), .val (.long u0), .second, .val (.long f0), .second, .val (.long u1), .second, .val (.long f1), .second, .val (.long u2), .second, .val (.long f2), .second, .val (.ref (ad 0)), .val (.ref b28), .val (.ref b53), .val (.int (1 : Int32)), .val (.int (1 : Int32)), .val (.int (1 : Int32)), .val (.int (1 : Int32)), .val (.int (1 : Int32)), .unset, .unset] [(.ref (ad 0))])) rfl (by rw [hml]; rfl) (argsL := []) (rest := []) (lenOf own_pd7 rfl) rfl (Nat.le_of_eq rfl) (hb hby at_417) rfl (by decide) (by decide)
      obtain ⟨rfl, Hn103, Kn103, Nn103⟩ := hQ104
      refine Gd.go (fun _ w_k => st104 _ w_k) ?_
      show Gd _ _ _ _ (T104.setTop (mkF m 420 #[.val (.long la), .second, .val (.long lb), .second, .val (.long lc), .second, .val (.int mm), .val (.long u0), .second, .val (.long f0), .second, .val (.long u1), .second, .val (.long f1), .second, .val (.long u2), .second, .val (.long f2), .second, .val (.ref (ad 0)), .val (.ref b28), .val (.ref b53), .val (.int (1 : Int32)), .val (.int (1 : Int32)), .val (.int (1 : Int32)), .val (.int (1 : Int32)), .val (.int (1 : Int32)), .unset, .unset] []))
      have xN105 := Fr.app xN98 Nn103
      have xF106 := xF99.keep Kn103 (ninS (Ne.symm (lt_q 0 (by decide))) nin0)
      have xF107 := xF100.keep Kn103 (ninS (Ne.symm (lt_bp 0 (by decide))) nin0)
      rw [if_pos w2, if_pos w2] at Hn103
      refine Gd.go (fun _ w_k => XS.iload X104.here hx rfl (hb hby at_420) rfl (XS.iconst X104.here hx rfl (hb hby at_422) (XS.icmpNo X104.here hx rfl (hb hby at_423) rfl (teq (by decide)).2 w_k))) ?_
      show Gd _ _ _ _ (T104.setTop (mkF m 426 #[.val (.long la), .second, .val (.long lb), .second, .val (.long lc), .second, .val (.int mm), .val (.long u0), .second, .val (.long f0), .second, .val (.long u1), .second, .val (.long f1), .second, .val (.long u2), .second, .val (.long f2), .second, .val (.ref (ad 0)), .val (.ref b28), .val (.ref b53), .val (.int (1 : Int32)), .val (.int (1 : Int32)), .val (.int (1 : Int32)), .val (.int (1 : Int32)), .val (.int (1 : Int32)), .unset, .unset] []))
      refine Gd.go (fun _ w_k => XS.iload X104.here hx rfl (hb hby at_426) rfl (XS.ifNo X104.here hx rfl (hb hby at_428) rfl ((if0 _ _).trans (feq (by decide)).1) w_k)) ?_
      show Gd _ _ _ _ (T104.setTop (mkF m 431 #[.val (.long la), .second, .val (.long lb), .second, .val (.long lc), .second, .val (.int mm), .val (.long u0), .second, .val (.long f0), .second, .val (.long u1), .second, .val (.long f1), .second, .val (.long u2), .second, .val (.long f2), .second, .val (.ref (ad 0)), .val (.ref b28), .val (.ref b53), .val (.int (1 : Int32)), .val (.int (1 : Int32)), .val (.int (1 : Int32)), .val (.int (1 : Int32)), .val (.int (1 : Int32)), .unset, .unset] []))
      refine Gd.go (fun _ w_k => XS.iconst X104.here hx rfl (hb hby at_431) (XS.goto X104.here hx rfl (pc0 := 432) (pc' := 436) rfl (hb hby at_432) (by decide) (by decide) (XS.istore X104.here hx rfl (hb hby at_436) rfl (l' := #[.val (.long la), .second, .val (.long lb), .second, .val (.long lc), .second, .val (.int mm), .val (.long u0), .second, .val (.long f0), .second, .val (.long u1), .second, .val (.long f1), .second, .val (.long u2), .second, .val (.long f2), .second, .val (.ref (ad 0)), .val (.ref b28), .val (.ref b53), .val (.int (1 : Int32)), .val (.int (1 : Int32)), .val (.int (1 : Int32)), .val (.int (1 : Int32)), .val (.int (1 : Int32)), .val (.int (2 : Int32)), .unset]) rfl (XS.aload X104.here hx rfl (hb hby at_438) rfl rfl w_k)))) ?_
      show Gd _ _ _ _ (T104.setTop (mkF m 440 #[.val (.long la), .second, .val (.long lb), .second, .val (.long lc), .second, .val (.int mm), .val (.long u0), .second, .val (.long f0), .second, .val (.long u1), .second, .val (.long f1), .second, .val (.long u2), .second, .val (.long f2), .second, .val (.ref (ad 0)), .val (.ref b28), .val (.ref b53), .val (.int (1 : Int32)), .val (.int (1 : Int32)), .val (.int (1 : Int32)), .val (.int (1 : Int32)), .val (.int (1 : Int32)), .val (.int (2 : Int32)), .unset] [(.ref (ad 0))]))
      obtain ⟨T108, X108, e108, st108⟩ := own_callVP X104 hx hZ (C := "com/example/nearfield/nearfield/job/RankedReads") (y := (⟨"com/example/nearfield/nearfield/job/RankedReads", "index", "()I"⟩ : MethodName)) hown (ow hw 140 rfl) (ow hw 141 rfl) (ow hw 143 rfl) (ow hw 142 rfl) (ow hw 4 rfl) (ow hw 144 rfl) (by decide) Hn103.2.2.1 (W := 0) (own_c23 l Z a0 hw T104.heap n0 ad (ad 2) (ad 1) (0 : Int32) (3 : Int32) (3 : Int32) an_2 (2 : Int32) sc (0 : Int32) (3 : Int32) (0 : Int32) (0 : Int64) (0 : Int64) (0 : Int64) sa sb sc sa sb sc (0 : Int32) (0 : Int32) (0 : Int32) (0 : Int32) (0 : Int32) (0 : Int32) (0 : Int32) (0 : Int32) (0 : Int32) (own_mk mm (1 : Int32)) (own_mk mm (2 : Int32)) (own_mk mm (4 : Int32)) Hn103) rfl rfl rfl (by decide) (by decide) (g := (mkF m 440 #[.val (.long la), .second, .val (.long lb), .second, .val (.long lc), .second, .val (.int mm), .val (.long u0), .second, .val (.long f0), .second, .val (.long u1), .second, .val (.long f1), .second, .val (.long u2), .second, .val (.long f2), .second, .val (.ref (ad 0)), .val (.ref b28), .val (.ref b53), .val (.int (1 : Int32)), .val (.int (1 : Int32)), .val (.int (1 : Int32)), .val (.int (1 : Int32)), .val (.int (1 : Int32)), .val (.int (2 : Int32)), .unset] [(.ref (ad 0))])) rfl (by rw [hml]; rfl) (argsL := []) (rest := []) (lenOf own_pd13 rfl) rfl (Nat.le_of_eq rfl) (hb hby at_440) rfl
      refine Gd.go (fun _ w_k => st108 _ (XS.istore X108.here hx rfl (hb hby at_443) rfl (l' := #[.val (.long la), .second, .val (.long lb), .second, .val (.long lc), .second, .val (.int mm), .val (.long u0), .second, .val (.long f0), .second, .val (.long u1), .second, .val (.long f1), .second, .val (.long u2), .second, .val (.long f2), .second, .val (.ref (ad 0)), .val (.ref b28), .val (.ref b53), .val (.int (1 : Int32)), .val (.int (1 : Int32)), .val (.int (1 : Int32)), .val (.int (1 : Int32)), .val (.int (1 : Int32)), .val (.int (2 : Int32)), .val (.int (2 : Int32))]) rfl (XS.iload X108.here hx rfl (hb hby at_445) rfl (XS.ifNo X108.here hx rfl (hb hby at_447) rfl ((if0 _ _).trans (feq (by decide)).1) w_k)))) ?_
      show Gd _ _ _ _ (T108.setTop (mkF m 450 #[.val (.long la), .second, .val (.long lb), .second, .val (.long lc), .second, .val (.int mm), .val (.long u0), .second, .val (.long f0), .second, .val (.long u1), .second, .val (.long f1), .second, .val (.long u2), .second, .val (.long f2), .second, .val (.ref (ad 0)), .val (.ref b28), .val (.ref b53), .val (.int (1 : Int32)), .val (.int (1 : Int32)), .val (.int (1 : Int32)), .val (.int (1 : Int32)), .val (.int (1 : Int32)), .val (.int (2 : Int32)), .val (.int (2 : Int32))] []))
      refine Gd.go (fun _ w_k => XS.iload X108.here hx rfl (hb hby at_450) rfl (XS.iload X108.here hx rfl (hb hby at_452) rfl (XS.icmpNo X108.here hx rfl (hb hby at_454) rfl (teq (by decide)).2 w_k))) ?_
      show Gd _ _ _ _ (T108.setTop (mkF m 457 #[.val (.long la), .second, .val (.long lb), .second, .val (.long lc), .second, .val (.int mm), .val (.long u0), .second, .val (.long f0), .second, .val (.long u1), .second, .val (.long f1), .second, .val (.long u2), .second, .val (.long f2), .second, .val (.ref (ad 0)), .val (.ref b28), .val (.ref b53), .val (.int (1 : Int32)), .val (.int (1 : Int32)), .val (.int (1 : Int32)), .val (.int (1 : Int32)), .val (.int (1 : Int32)), .val (.int (2 : Int32)), .val (.int (2 : Int32))] []))
      refine Gd.go (fun _ w_k => XS.iconst X108.here hx rfl (hb hby at_457) (XS.goto X108.here hx rfl (pc0 := 458) (pc' := 462) rfl (hb hby at_458) (by decide) (by decide) (XS.istore X108.here hx rfl (hb hby at_462) rfl (l' := #[.val (.long la), .second, .val (.long lb), .second, .val (.long lc), .second, .val (.int mm), .val (.long u0), .second, .val (.long f0), .second, .val (.long u1), .second, .val (.long f1), .second, .val (.long u2), .second, .val (.long f2), .second, .val (.ref (ad 0)), .val (.ref b28), .val (.ref b53), .val (.int (1 : Int32)), .val (.int (1 : Int32)), .val (.int (1 : Int32)), .val (.int (1 : Int32)), .val (.int (1 : Int32)), .val (.int (2 : Int32)), .val (.int (2 : Int32))]) rfl (XS.iload X108.here hx rfl (hb hby at_464) rfl (XS.iconst X108.here hx rfl (hb hby at_466) (XS.icmpNo X108.here hx rfl (hb hby at_467) rfl (feq (by decide)).1 w_k)))))) ?_
      show Gd _ _ _ _ (T108.setTop (mkF m 470 #[.val (.long la), .second, .val (.long lb), .second, .val (.long lc), .second, .val (.int mm), .val (.long u0), .second, .val (.long f0), .second, .val (.long u1), .second, .val (.long f1), .second, .val (.long u2), .second, .val (.long f2), .second, .val (.ref (ad 0)), .val (.ref b28), .val (.ref b53), .val (.int (1 : Int32)), .val (.int (1 : Int32)), .val (.int (1 : Int32)), .val (.int (1 : Int32)), .val (.int (1 : Int32)), .val (.int (2 : Int32)), .val (.int (2 : Int32))] []))
      refine Gd.go (fun _ w_k => XS.iload X108.here hx rfl (hb hby at_470) rfl (XS.ifNo X108.here hx rfl (hb hby at_472) rfl ((if0 _ _).trans (feq (by decide)).1) w_k)) ?_
      show Gd _ _ _ _ (T108.setTop (mkF m 475 #[.val (.long la), .second, .val (.long lb), .second, .val (.long lc), .second, .val (.int mm), .val (.long u0), .second, .val (.long f0), .second, .val (.long u1), .second, .val (.long f1), .second, .val (.long u2), .second, .val (.long f2), .second, .val (.ref (ad 0)), .val (.ref b28), .val (.ref b53), .val (.int (1 : Int32)), .val (.int (1 : Int32)), .val (.int (1 : Int32)), .val (.int (1 : Int32)), .val (.int (1 : Int32)), .val (.int (2 : Int32)), .val (.int (2 : Int32))] []))
      refine Gd.go (fun _ w_k => XS.aload X108.here hx rfl (hb hby at_475) rfl rfl w_k) ?_
      show Gd _ _ _ _ (T108.setTop (mkF m 477 #[.val (.long la), .second, .val (.long lb), .second, .val (.long lc), .second, .val (.int mm), .val (.long u0), .second, .val (.long f0), .second, .val (.long u1), .second, .val (.long f1), .second, .val (.long u2), .second, .val (.long f2), .second, .val (.ref (ad 0)), .val (.ref b28), .val (.ref b53), .val (.int (1 : Int32)), .val (.int (1 : Int32)), .val (.int (1 : Int32)), .val (.int (1 : Int32)), .val (.int (1 : Int32)), .val (.int (2 : Int32)), .val (.int (2 : Int32))] [(.ref (ad 0))]))
      obtain ⟨T109, X109, e109, st109⟩ := own_callVP X108 hx hZ (C := "com/example/nearfield/nearfield/job/RankedReads") (y := (⟨"com/example/nearfield/nearfield/job/RankedReads", "packedNext", "()J"⟩ : MethodName)) hown (ow hw 145 rfl) (ow hw 146 rfl) (ow hw 148 rfl) (ow hw 147 rfl) (ow hw 4 rfl) (ow hw 149 rfl) (by decide) Hn103.2.2.1 (W := 0) (own_c24 l Z a0 hw T104.heap n0 ad (ad 2) (ad 1) (0 : Int32) (3 : Int32) (3 : Int32) an_2 (2 : Int32) sc (0 : Int32) (3 : Int32) (0 : Int32) (0 : Int64) (0 : Int64) (0 : Int64) sa sb sc sa sb sc (0 : Int32) (0 : Int32) (0 : Int32) (0 : Int32) (0 : Int32) (0 : Int32) (0 : Int32) (0 : Int32) (0 : Int32) (own_mk mm (1 : Int32)) (own_mk mm (2 : Int32)) (own_mk mm (4 : Int32)) Hn103) rfl rfl e108 (by decide) (by decide) (g := (mkF m 477 #[.val (.long la), .second, .val (.long lb), .second, .val (.long lc), .second, .val (.int mm), .val (.long u0), .second, .val (.long f0), .second, .val (.long u1), .second, .val (.long f1), .second, .val (.long u2), .second, .val (.long f2), .second, .val (.ref (ad 0)), .val (.ref b28), .val (.ref b53), .val (.int (1 : Int32)), .val (.int (1 : Int32)), .val (.int (1 : Int32)), .val (.int (1 : Int32)), .val (.int (1 : Int32)), .val (.int (2 : Int32)), .val (.int (2 : Int32))] [(.ref (ad 0))])) rfl (by rw [hml]; rfl) (argsL := []) (rest := []) (lenOf own_pd14 rfl) rfl (Nat.le_of_eq rfl) (hb hby at_477) rfl
      refine Gd.go (fun _ w_k => st109 _ (XS.aload X109.here hx rfl (hb hby at_480) rfl rfl (XS.aload X109.here hx rfl (hb hby at_482) rfl rfl (XS.iconst X109.here hx rfl (hb hby at_484) (own_ldI X109 hx hZ e109 xF107 (j := (2 : Int32)) (by decide) (by decide) (v := (.int B2)) rfl (g := (mkF m 485 #[.val (.long la), .second, .val (.long lb), .second, .val (.long lc), .second, .val (.int mm), .val (.long u0), .second, .val (.long f0), .second, .val (.long u1), .second, .val (.long f1), .second, .val (.long u2), .second, .val (.long f2), .second, .val (.ref (ad 0)), .val (.ref b28), .val (.ref b53), .val (.int (1 : Int32)), .val (.int (1 : Int32)), .val (.int (1 : Int32)), .val (.int (1 : Int32)), .val (.int (1 : Int32)), .val (.int (2 : Int32)), .val (.int (2 : Int32))] [(.int (2 : Int32)), (.ref b53), (.ref b28), (.long sc)])) rfl rfl (hb hby at_485) _ (own_ldJ X109 hx hZ e109 xF106 (j := B2) gB2.1 gB2.2 (v := (.long sc)) eJ2 (g := (mkF m 486 #[.val (.long la), .second, .val (.long lb), .second, .val (.long lc), .second, .val (.int mm), .val (.long u0), .second, .val (.long f0), .second, .val (.long u1), .second, .val (.long f1), .second, .val (.long u2), .second, .val (.long f2), .second, .val (.ref (ad 0)), .val (.ref b28), .val (.ref b53), .val (.int (1 : Int32)), .val (.int (1 : Int32)), .val (.int (1 : Int32)), .val (.int (1 : Int32)), .val (.int (1 : Int32)), .val (.int (2 : Int32)), .val (.int (2 : Int32))] [(.int B2), (.ref b28), (.long sc)])) rfl rfl (hb hby at_486) _ (XS.lcmp X109.here hx rfl (hb hby at_487) rfl (XS.ifNo X109.here hx rfl (hb hby at_488) rfl ((if0 _ _).trans (teq ((lw_eq _ _).mpr rfl)).2) w_k)))))))) ?_
      show Gd _ _ _ _ (T109.setTop (mkF m 491 #[.val (.long la), .second, .val (.long lb), .second, .val (.long lc), .second, .val (.int mm), .val (.long u0), .second, .val (.long f0), .second, .val (.long u1), .second, .val (.long f1), .second, .val (.long u2), .second, .val (.long f2), .second, .val (.ref (ad 0)), .val (.ref b28), .val (.ref b53), .val (.int (1 : Int32)), .val (.int (1 : Int32)), .val (.int (1 : Int32)), .val (.int (1 : Int32)), .val (.int (1 : Int32)), .val (.int (2 : Int32)), .val (.int (2 : Int32))] []))
      refine Gd.go (fun _ w_k => XS.iconst X109.here hx rfl (hb hby at_491) (XS.goto X109.here hx rfl (pc0 := 492) (pc' := 496) rfl (hb hby at_492) (by decide) (by decide) (XS.istore X109.here hx rfl (hb hby at_496) rfl (l' := #[.val (.long la), .second, .val (.long lb), .second, .val (.long lc), .second, .val (.int mm), .val (.long u0), .second, .val (.long f0), .second, .val (.long u1), .second, .val (.long f1), .second, .val (.long u2), .second, .val (.long f2), .second, .val (.ref (ad 0)), .val (.ref b28), .val (.ref b53), .val (.int (1 : Int32)), .val (.int (1 : Int32)), .val (.int (1 : Int32)), .val (.int (1 : Int32)), .val (.int (1 : Int32)), .val (.int (2 : Int32)), .val (.int (2 : Int32))]) rfl (XS.iload X109.here hx rfl (hb hby at_498) rfl w_k)))) ?_
      show Gd _ _ _ _ (T109.setTop (mkF m 500 #[.val (.long la), .second, .val (.long lb), .second, .val (.long lc), .second, .val (.int mm), .val (.long u0), .second, .val (.long f0), .second, .val (.long u1), .second, .val (.long f1), .second, .val (.long u2), .second, .val (.long f2), .second, .val (.ref (ad 0)), .val (.ref b28), .val (.ref b53), .val (.int (1 : Int32)), .val (.int (1 : Int32)), .val (.int (1 : Int32)), .val (.int (1 : Int32)), .val (.int (1 : Int32)), .val (.int (2 : Int32)), .val (.int (2 : Int32))] [(.int (1 : Int32))]))
      refine own_retN (t := .boolean) X109 hx hret hlk (by simp) (hb hby at_500) ?_ (by decide) (by decide)
      exact ⟨rfl, xN105⟩
    · have v2 : ¬ (own_k (own_mk mm (1 : Int32)) (own_mk mm (2 : Int32)) (own_mk mm (4 : Int32)) B2) = (0 : Int32) := by rw [← eB2]; exact w2
      refine Gd.go (fun _ w_k => XS.iload X_2.here hx rfl (hb hby at_271) rfl (XS.aload X_2.here hx rfl (hb hby at_273) rfl rfl (XS.iconst X_2.here hx rfl (hb hby at_275) (own_ldI X_2 hx hZ rfl P_2 (j := (1 : Int32)) (by decide) (by decide) (v := (.int B1)) rfl (g := (mkF m 276 #[.val (.long la), .second, .val (.long lb), .second, .val (.long lc), .second, .val (.int mm), .val (.long u0), .second, .val (.long f0), .second, .val (.long u1), .second, .val (.long f1), .second, .val (.long u2), .second, .val (.long f2), .second, .val (.ref (ad 0)), .val (.ref b28), .val (.ref b53), .val (.int (1 : Int32)), .unset, .unset, .unset, .unset, .unset, .unset] [(.int (1 : Int32)), (.ref b53), (.int mm)])) rfl rfl (hb hby at_276) _ (XS.ishr X_2.here hx rfl (hb hby at_277) rfl (XS.iconst X_2.here hx rfl (hb hby at_278) (XS.iand X_2.here hx rfl (hb hby at_279) rfl (XS.ifNo X_2.here hx rfl (hb hby at_280) rfl ((if0 _ _).trans (teq ((own_bitk mm gB1).mpr v1)).2) w_k)))))))) ?_
      show Gd _ _ _ _ (T_2.setTop (mkF m 283 #[.val (.long la), .second, .val (.long lb), .second, .val (.long lc), .second, .val (.int mm), .val (.long u0), .second, .val (.long f0), .second, .val (.long u1), .second, .val (.long f1), .second, .val (.long u2), .second, .val (.long f2), .second, .val (.ref (ad 0)), .val (.ref b28), .val (.ref b53), .val (.int (1 : Int32)), .unset, .unset, .unset, .unset, .unset, .unset] []))
      refine Gd.go (fun _ w_k => XS.iconst X_2.here hx rfl (hb hby at_283) (XS.goto X_2.here hx rfl (pc0 := 284) (pc' := 288) rfl (hb hby at_284) (by decide) (by decide) (XS.istore X_2.here hx rfl (hb hby at_288) rfl (l' := #[.val (.long la), .second, .val (.long lb), .second, .val (.long lc), .second, .val (.int mm), .val (.long u0), .second, .val (.long f0), .second, .val (.long u1), .second, .val (.long f1), .second, .val (.long u2), .second, .val (.long f2), .second, .val (.ref (ad 0)), .val (.ref b28), .val (.ref b53), .val (.int (1 : Int32)), .val (.int (1 : Int32)), .unset, .unset, .unset, .unset, .unset]) rfl (XS.iload X_2.here hx rfl (hb hby at_290) rfl (XS.aload X_2.here hx rfl (hb hby at_292) rfl rfl (XS.iconst X_2.here hx rfl (hb hby at_294) (own_ldI X_2 hx hZ rfl P_2 (j := (2 : Int32)) (by decide) (by decide) (v := (.int B2)) rfl (g := (mkF m 295 #[.val (.long la), .second, .val (.long lb), .second, .val (.long lc), .second, .val (.int mm), .val (.long u0), .second, .val (.long f0), .second, .val (.long u1), .second, .val (.long f1), .second, .val (.long u2), .second, .val (.long f2), .second, .val (.ref (ad 0)), .val (.ref b28), .val (.ref b53), .val (.int (1 : Int32)), .val (.int (1 : Int32)), .unset, .unset, .unset, .unset, .unset] [(.int (2 : Int32)), (.ref b53), (.int mm)])) rfl rfl (hb hby at_295) _ (XS.ishr X_2.here hx rfl (hb hby at_296) rfl (XS.iconst X_2.here hx rfl (hb hby at_297) (XS.iand X_2.here hx rfl (hb hby at_298) rfl (XS.ifYes X_2.here hx rfl (pc0 := 299) (pc' := 306) rfl (hb hby at_299) rfl ((if0 _ _).trans (feq (fun q => v2 ((own_bitk mm gB2).mp q))).2) (by decide) (by decide) w_k))))))))))) ?_
      show Gd _ _ _ _ (T_2.setTop (mkF m 306 #[.val (.long la), .second, .val (.long lb), .second, .val (.long lc), .second, .val (.int mm), .val (.long u0), .second, .val (.long f0), .second, .val (.long u1), .second, .val (.long f1), .second, .val (.long u2), .second, .val (.long f2), .second, .val (.ref (ad 0)), .val (.ref b28), .val (.ref b53), .val (.int (1 : Int32)), .val (.int (1 : Int32)), .unset, .unset, .unset, .unset, .unset] []))
      refine Gd.go (fun _ w_k => XS.iconst X_2.here hx rfl (hb hby at_306) (XS.istore X_2.here hx rfl (hb hby at_307) rfl (l' := #[.val (.long la), .second, .val (.long lb), .second, .val (.long lc), .second, .val (.int mm), .val (.long u0), .second, .val (.long f0), .second, .val (.long u1), .second, .val (.long f1), .second, .val (.long u2), .second, .val (.long f2), .second, .val (.ref (ad 0)), .val (.ref b28), .val (.ref b53), .val (.int (1 : Int32)), .val (.int (1 : Int32)), .val (.int (0 : Int32)), .unset, .unset, .unset, .unset]) rfl (XS.aload X_2.here hx rfl (hb hby at_309) rfl rfl w_k))) ?_
      show Gd _ _ _ _ (T_2.setTop (mkF m 311 #[.val (.long la), .second, .val (.long lb), .second, .val (.long lc), .second, .val (.int mm), .val (.long u0), .second, .val (.long f0), .second, .val (.long u1), .second, .val (.long f1), .second, .val (.long u2), .second, .val (.long f2), .second, .val (.ref (ad 0)), .val (.ref b28), .val (.ref b53), .val (.int (1 : Int32)), .val (.int (1 : Int32)), .val (.int (0 : Int32)), .unset, .unset, .unset, .unset] [(.ref (ad 0))]))
      obtain ⟨v111, T111, L111, X111, hQ111, st111⟩ := own_callV X_2 hx hZ (C := "com/example/nearfield/nearfield/job/RankedReads") (y := (⟨"com/example/nearfield/nearfield/job/RankedReads", "next", "()V"⟩ : MethodName)) hown (ow hw 155 rfl) (ow hw 127 rfl) (ow hw 129 rfl) (ow hw 128 rfl) (ow hw 4 rfl) (ow hw 130 rfl) (by decide) H_2.2.2.1 (W := 0) (own_c20_0 l Z a0 hw T_2.heap n0 ad (ad 1) (0 : Int32) (3 : Int32) (3 : Int32) an_2 sa (0 : Int32) (0 : Int32) (0 : Int64) (0 : Int64) (0 : Int64) sa sb sc sa sb sc (0 : Int32) (0 : Int32) (0 : Int32) (0 : Int32) (0 : Int32) (0 : Int32) (own_mk mm (1 : Int32)) (own_mk mm (2 : Int32)) (own_mk mm (4 : Int32)) (own_ixL eB0 gB0) (own_ixL eB1 gB1) (own_ixL eB2 gB2) H_2) rfl rfl rfl (by decide) (by decide) (g := (mkF m 311 #[.val (.long la), .second, .val (.long lb), .second, .val (.long lc), .second, .val (.int mm), .val (.long u0), .second, .val (.long f0), .second, .val (.long u1), .second, .val (.long f1), .second, .val (.long u2), .second, .val (.long f2), .second, .val (.ref (ad 0)), .val (.ref b28), .val (.ref b53), .val (.int (1 : Int32)), .val (.int (1 : Int32)), .val (.int (0 : Int32)), .unset, .unset, .unset, .unset] [(.ref (ad 0))])) rfl (by rw [hml]; rfl) (argsL := []) (rest := []) (lenOf own_pd7 rfl) rfl (Nat.le_of_eq rfl) (hb hby at_311) rfl (by decide) (by decide)
      obtain ⟨rfl, Hn110, Kn110, Nn110⟩ := hQ111
      refine Gd.go (fun _ w_k => st111 _ w_k) ?_
      show Gd _ _ _ _ (T111.setTop (mkF m 314 #[.val (.long la), .second, .val (.long lb), .second, .val (.long lc), .second, .val (.int mm), .val (.long u0), .second, .val (.long f0), .second, .val (.long u1), .second, .val (.long f1), .second, .val (.long u2), .second, .val (.long f2), .second, .val (.ref (ad 0)), .val (.ref b28), .val (.ref b53), .val (.int (1 : Int32)), .val (.int (1 : Int32)), .val (.int (0 : Int32)), .unset, .unset, .unset, .unset] []))
      have xN112 := Fr.app N_2 Nn110
      have xF113 := Q_2.keep Kn110 (ninS (Ne.symm (lt_q 0 (by decide))) nin0)
      have xF114 := P_2.keep Kn110 (ninS (Ne.symm (lt_bp 0 (by decide))) nin0)
      rw [if_pos w1, if_pos w1] at Hn110
      refine Gd.go (fun _ w_k => XS.iload X111.here hx rfl (hb hby at_314) rfl (XS.ifNo X111.here hx rfl (hb hby at_316) rfl ((if0 _ _).trans (feq (by decide)).1) w_k)) ?_
      show Gd _ _ _ _ (T111.setTop (mkF m 319 #[.val (.long la), .second, .val (.long lb), .second, .val (.long lc), .second, .val (.int mm), .val (.long u0), .second, .val (.long f0), .second, .val (.long u1), .second, .val (.long f1), .second, .val (.long u2), .second, .val (.long f2), .second, .val (.ref (ad 0)), .val (.ref b28), .val (.ref b53), .val (.int (1 : Int32)), .val (.int (1 : Int32)), .val (.int (0 : Int32)), .unset, .unset, .unset, .unset] []))
      refine Gd.go (fun _ w_k => XS.iconst X111.here hx rfl (hb hby at_319) (XS.goto X111.here hx rfl (pc0 := 320) (pc' := 333) rfl (hb hby at_320) (by decide) (by decide) (XS.istore X111.here hx rfl (hb hby at_333) rfl (l' := #[.val (.long la), .second, .val (.long lb), .second, .val (.long lc), .second, .val (.int mm), .val (.long u0), .second, .val (.long f0), .second, .val (.long u1), .second, .val (.long f1), .second, .val (.long u2), .second, .val (.long f2), .second, .val (.ref (ad 0)), .val (.ref b28), .val (.ref b53), .val (.int (1 : Int32)), .val (.int (1 : Int32)), .val (.int (0 : Int32)), .val (.int (1 : Int32)), .unset, .unset, .unset]) rfl (XS.aload X111.here hx rfl (hb hby at_335) rfl rfl w_k)))) ?_
      show Gd _ _ _ _ (T111.setTop (mkF m 337 #[.val (.long la), .second, .val (.long lb), .second, .val (.long lc), .second, .val (.int mm), .val (.long u0), .second, .val (.long f0), .second, .val (.long u1), .second, .val (.long f1), .second, .val (.long u2), .second, .val (.long f2), .second, .val (.ref (ad 0)), .val (.ref b28), .val (.ref b53), .val (.int (1 : Int32)), .val (.int (1 : Int32)), .val (.int (0 : Int32)), .val (.int (1 : Int32)), .unset, .unset, .unset] [(.ref (ad 0))]))
      obtain ⟨T115, X115, e115, st115⟩ := own_callVP X111 hx hZ (C := "com/example/nearfield/nearfield/job/RankedReads") (y := (⟨"com/example/nearfield/nearfield/job/RankedReads", "index", "()I"⟩ : MethodName)) hown (ow hw 140 rfl) (ow hw 141 rfl) (ow hw 143 rfl) (ow hw 142 rfl) (ow hw 4 rfl) (ow hw 144 rfl) (by decide) Hn110.2.2.1 (W := 0) (own_c23 l Z a0 hw T111.heap n0 ad (ad 2) (ad 1) (0 : Int32) (3 : Int32) (3 : Int32) an_2 (1 : Int32) sb (0 : Int32) (3 : Int32) (0 : Int32) (0 : Int64) (0 : Int64) (0 : Int64) sa sb sc sa sb sc (0 : Int32) (0 : Int32) (0 : Int32) (0 : Int32) (0 : Int32) (0 : Int32) (0 : Int32) (0 : Int32) (0 : Int32) (own_mk mm (1 : Int32)) (own_mk mm (2 : Int32)) (own_mk mm (4 : Int32)) Hn110) rfl rfl rfl (by decide) (by decide) (g := (mkF m 337 #[.val (.long la), .second, .val (.long lb), .second, .val (.long lc), .second, .val (.int mm), .val (.long u0), .second, .val (.long f0), .second, .val (.long u1), .second, .val (.long f1), .second, .val (.long u2), .second, .val (.long f2), .second, .val (.ref (ad 0)), .val (.ref b28), .val (.ref b53), .val (.int (1 : Int32)), .val (.int (1 : Int32)), .val (.int (0 : Int32)), .val (.int (1 : Int32)), .unset, .unset, .unset] [(.ref (ad 0))])) rfl (by rw [hml]; rfl) (argsL := []) (rest := []) (lenOf own_pd13 rfl) rfl (Nat.le_of_eq rfl) (hb hby at_337) rfl
      refine Gd.go (fun _ w_k => st115 _ (XS.istore X115.here hx rfl (hb hby at_340) rfl (l' := #[.val (.long la), .second, .val (.long lb), .second, .val (.long lc), .second, .val (.int mm), .val (.long u0), .second, .val (.long f0), .second, .val (.long u1), .second, .val (.long f1), .second, .val (.long u2), .second, .val (.long f2), .second, .val (.ref (ad 0)), .val (.ref b28), .val (.ref b53), .val (.int (1 : Int32)), .val (.int (1 : Int32)), .val (.int (0 : Int32)), .val (.int (1 : Int32)), .val (.int (1 : Int32)), .unset, .unset]) rfl (XS.iload X115.here hx rfl (hb hby at_342) rfl (XS.ifNo X115.here hx rfl (hb hby at_344) rfl ((if0 _ _).trans (feq (by decide)).1) w_k)))) ?_
      show Gd _ _ _ _ (T115.setTop (mkF m 347 #[.val (.long la), .second, .val (.long lb), .second, .val (.long lc), .second, .val (.int mm), .val (.long u0), .second, .val (.long f0), .second, .val (.long u1), .second, .val (.long f1), .second, .val (.long u2), .second, .val (.long f2), .second, .val (.ref (ad 0)), .val (.ref b28), .val (.ref b53), .val (.int (1 : Int32)), .val (.int (1 : Int32)), .val (.int (0 : Int32)), .val (.int (1 : Int32)), .val (.int (1 : Int32)), .unset, .unset] []))
      refine Gd.go (fun _ w_k => XS.iload X115.here hx rfl (hb hby at_347) rfl (XS.iload X115.here hx rfl (hb hby at_349) rfl (XS.icmpNo X115.here hx rfl (hb hby at_351) rfl (teq (by decide)).2 w_k))) ?_
      show Gd _ _ _ _ (T115.setTop (mkF m 354 #[.val (.long la), .second, .val (.long lb), .second, .val (.long lc), .second, .val (.int mm), .val (.long u0), .second, .val (.long f0), .second, .val (.long u1), .second, .val (.long f1), .second, .val (.long u2), .second, .val (.long f2), .second, .val (.ref (ad 0)), .val (.ref b28), .val (.ref b53), .val (.int (1 : Int32)), .val (.int (1 : Int32)), .val (.int (0 : Int32)), .val (.int (1 : Int32)), .val (.int (1 : Int32)), .unset, .unset] []))
      refine Gd.go (fun _ w_k => XS.iconst X115.here hx rfl (hb hby at_354) (XS.goto X115.here hx rfl (pc0 := 355) (pc' := 359) rfl (hb hby at_355) (by decide) (by decide) (XS.istore X115.here hx rfl (hb hby at_359) rfl (l' := #[.val (.long la), .second, .val (.long lb), .second, .val (.long lc), .second, .val (.int mm), .val (.long u0), .second, .val (.long f0), .second, .val (.long u1), .second, .val (.long f1), .second, .val (.long u2), .second, .val (.long f2), .second, .val (.ref (ad 0)), .val (.ref b28), .val (.ref b53), .val (.int (1 : Int32)), .val (.int (1 : Int32)), .val (.int (0 : Int32)), .val (.int (1 : Int32)), .val (.int (1 : Int32)), .unset, .unset]) rfl (XS.iload X115.here hx rfl (hb hby at_361) rfl (XS.iconst X115.here hx rfl (hb hby at_363) (XS.icmpYes X115.here hx rfl (pc0 := 364) (pc' := 386) rfl (hb hby at_364) rfl (feq (by decide)).2 (by decide) (by decide) w_k)))))) ?_
      show Gd _ _ _ _ (T115.setTop (mkF m 386 #[.val (.long la), .second, .val (.long lb), .second, .val (.long lc), .second, .val (.int mm), .val (.long u0), .second, .val (.long f0), .second, .val (.long u1), .second, .val (.long f1), .second, .val (.long u2), .second, .val (.long f2), .second, .val (.ref (ad 0)), .val (.ref b28), .val (.ref b53), .val (.int (1 : Int32)), .val (.int (1 : Int32)), .val (.int (0 : Int32)), .val (.int (1 : Int32)), .val (.int (1 : Int32)), .unset, .unset] []))
      refine Gd.go (fun _ w_k => XS.iload X115.here hx rfl (hb hby at_386) rfl (XS.ifNo X115.here hx rfl (hb hby at_388) rfl ((if0 _ _).trans (feq (by decide)).1) w_k)) ?_
      show Gd _ _ _ _ (T115.setTop (mkF m 391 #[.val (.long la), .second, .val (.long lb), .second, .val (.long lc), .second, .val (.int mm), .val (.long u0), .second, .val (.long f0), .second, .val (.long u1), .second, .val (.long f1), .second, .val (.long u2), .second, .val (.long f2), .second, .val (.ref (ad 0)), .val (.ref b28), .val (.ref b53), .val (.int (1 : Int32)), .val (.int (1 : Int32)), .val (.int (0 : Int32)), .val (.int (1 : Int32)), .val (.int (1 : Int32)), .unset, .unset] []))
      refine Gd.go (fun _ w_k => XS.aload X115.here hx rfl (hb hby at_391) rfl rfl w_k) ?_
      show Gd _ _ _ _ (T115.setTop (mkF m 393 #[.val (.long la), .second, .val (.long lb), .second, .val (.long lc), .second, .val (.int mm), .val (.long u0), .second, .val (.long f0), .second, .val (.long u1), .second, .val (.long f1), .second, .val (.long u2), .second, .val (.long f2), .second, .val (.ref (ad 0)), .val (.ref b28), .val (.ref b53), .val (.int (1 : Int32)), .val (.int (1 : Int32)), .val (.int (0 : Int32)), .val (.int (1 : Int32)), .val (.int (1 : Int32)), .unset, .unset] [(.ref (ad 0))]))
      obtain ⟨T116, X116, e116, st116⟩ := own_callVP X115 hx hZ (C := "com/example/nearfield/nearfield/job/RankedReads") (y := (⟨"com/example/nearfield/nearfield/job/RankedReads", "packedNext", "()J"⟩ : MethodName)) hown (ow hw 145 rfl) (ow hw 146 rfl) (ow hw 148 rfl) (ow hw 147 rfl) (ow hw 4 rfl) (ow hw 149 rfl) (by decide) Hn110.2.2.1 (W := 0) (own_c24 l Z a0 hw T111.heap n0 ad (ad 2) (ad 1) (0 : Int32) (3 : Int32) (3 : Int32) an_2 (1 : Int32) sb (0 : Int32) (3 : Int32) (0 : Int32) (0 : Int64) (0 : Int64) (0 : Int64) sa sb sc sa sb sc (0 : Int32) (0 : Int32) (0 : Int32) (0 : Int32) (0 : Int32) (0 : Int32) (0 : Int32) (0 : Int32) (0 : Int32) (own_mk mm (1 : Int32)) (own_mk mm (2 : Int32)) (own_mk mm (4 : Int32)) Hn110) rfl rfl e115 (by decide) (by decide) (g := (mkF m 393 #[.val (.long la), .second, .val (.long lb), .second, .val (.long lc), .second, .val (.int mm), .val (.long u0), .second, .val (.long f0), .second, .val (.long u1), .second, .val (.long f1), .second, .val (.long u2), .second, .val (.long f2), .second, .val (.ref (ad 0)), .val (.ref b28), .val (.ref b53), .val (.int (1 : Int32)), .val (.int (1 : Int32)), .val (.int (0 : Int32)), .val (.int (1 : Int32)), .val (.int (1 : Int32)), .unset, .unset] [(.ref (ad 0))])) rfl (by rw [hml]; rfl) (argsL := []) (rest := []) (lenOf own_pd14 rfl) rfl (Nat.le_of_eq rfl) (hb hby at_393) rfl
      refine Gd.go (fun _ w_k => st116 _ (XS.aload X116.here hx rfl (hb hby at_396) rfl rfl (XS.aload X116.here hx rfl (hb hby at_398) rfl rfl (XS.iload X116.here hx rfl (hb hby at_400) rfl (own_ldI X116 hx hZ e116 xF114 (j := (1 : Int32)) (by decide) (by decide) (v := (.int B1)) rfl (g := (mkF m 402 #[.val (.long la), .second, .val (.long lb), .second, .val (.long lc), .second, .val (.int mm), .val (.long u0), .second, .val (.long f0), .second, .val (.long u1), .second, .val (.long f1), .second, .val (.long u2), .second, .val (.long f2), .second, .val (.ref (ad 0)), .val (.ref b28), .val (.ref b53), .val (.int (1 : Int32)), .val (.int (1 : Int32)), .val (.int (0 : Int32)), .val (.int (1 : Int32)), .val (.int (1 : Int32)), .unset, .unset] [(.int (1 : Int32)), (.ref b53), (.ref b28), (.long sb)])) rfl rfl (hb hby at_402) _ (own_ldJ X116 hx hZ e116 xF113 (j := B1) gB1.1 gB1.2 (v := (.long sb)) eJ1 (g := (mkF m 403 #[.val (.long la), .second, .val (.long lb), .second, .val (.long lc), .second, .val (.int mm), .val (.long u0), .second, .val (.long f0), .second, .val (.long u1), .second, .val (.long f1), .second, .val (.long u2), .second, .val (.long f2), .second, .val (.ref (ad 0)), .val (.ref b28), .val (.ref b53), .val (.int (1 : Int32)), .val (.int (1 : Int32)), .val (.int (0 : Int32)), .val (.int (1 : Int32)), .val (.int (1 : Int32)), .unset, .unset] [(.int B1), (.ref b28), (.long sb)])) rfl rfl (hb hby at_403) _ (XS.lcmp X116.here hx rfl (hb hby at_404) rfl (XS.ifNo X116.here hx rfl (hb hby at_405) rfl ((if0 _ _).trans (teq ((lw_eq _ _).mpr rfl)).2) w_k)))))))) ?_
      show Gd _ _ _ _ (T116.setTop (mkF m 408 #[.val (.long la), .second, .val (.long lb), .second, .val (.long lc), .second, .val (.int mm), .val (.long u0), .second, .val (.long f0), .second, .val (.long u1), .second, .val (.long f1), .second, .val (.long u2), .second, .val (.long f2), .second, .val (.ref (ad 0)), .val (.ref b28), .val (.ref b53), .val (.int (1 : Int32)), .val (.int (1 : Int32)), .val (.int (0 : Int32)), .val (.int (1 : Int32)), .val (.int (1 : Int32)), .unset, .unset] []))
      refine Gd.go (fun _ w_k => XS.iconst X116.here hx rfl (hb hby at_408) (XS.goto X116.here hx rfl (pc0 := 409) (pc' := 413) rfl (hb hby at_409) (by decide) (by decide) (XS.istore X116.here hx rfl (hb hby at_413) rfl (l' := #[.val (.long la), .second, .val (.long lb), .second, .val (.long lc), .second, .val (.int mm), .val (.long u0), .second, .val (.long f0), .second, .val (.long u1), .second, .val (.long f1), .second, .val (.long u2), .second, .val (.long f2), .second, .val (.ref (ad 0)), .val (.ref b28), .val (.ref b53), .val (.int (1 : Int32)), .val (.int (1 : Int32)), .val (.int (0 : Int32)), .val (.int (1 : Int32)), .val (.int (1 : Int32)), .unset, .unset]) rfl (XS.aload X116.here hx rfl (hb hby at_415) rfl rfl w_k)))) ?_
      show Gd _ _ _ _ (T116.setTop (mkF m 417 #[.val (.long la), .second, .val (.long lb), .second, .val (.long lc), .second, .val (.int mm), .val (.long u0), .second, .val (.long f0), .second, .val (.long u1), .second, .val (.long f1), .second, .val (.long u2), .second, .val (.long f2), .second, .val (.ref (ad 0)), .val (.ref b28), .val (.ref b53), .val (.int (1 : Int32)), .val (.int (1 : Int32)), .val (.int (0 : Int32)), .val (.int (1 : Int32)), .val (.int (1 : Int32)), .unset, .unset] [(.ref (ad 0))]))
      obtain ⟨v118, T118, L118, X118, hQ118, st118⟩ := own_callV X116 hx hZ (C := "com/example/nearfield/nearfield/job/RankedReads") (y := (⟨"com/example/nearfield/nearfield/job/RankedReads", "next", "()V"⟩ : MethodName)) hown (ow hw 155 rfl) (ow hw 127 rfl) (ow hw 129 rfl) (ow hw 128 rfl) (ow hw 4 rfl) (ow hw 130 rfl) (by decide) Hn110.2.2.1 (W := 0) (own_c20_1 l Z a0 hw T111.heap n0 ad (ad 1) (0 : Int32) (3 : Int32) (3 : Int32) an_2 sb (0 : Int32) (0 : Int32) (0 : Int64) (0 : Int64) (0 : Int64) sa sb sc sa sb sc (0 : Int32) (0 : Int32) (0 : Int32) (0 : Int32) (0 : Int32) (0 : Int32) (own_mk mm (1 : Int32)) (own_mk mm (2 : Int32)) (own_mk mm (4 : Int32)) (own_ixL eB0 gB0) (own_ixL eB1 gB1) (own_ixL eB2 gB2) Hn110) rfl rfl e116 (by decide) (by decide) (g := (mkF m 417 #[.val (.long la), .second, .val (.long lb), .second, .val (.long lc), .second, .val (.int mm), .val (.long u0), .second, .val (.long f0), .second, .val (.long u1), .second, .val (.long f1), .second, .val (.long u2), .second, .val (.long f2), .second, .val (.ref (ad 0)), .val (.ref b28), .val (.ref b53), .val (.int (1 : Int32)), .val (.int (1 : Int32)), .val (.int (0 : Int32)), .val (.int (1 : Int32)), .val (.int (1 : Int32)), .unset, .unset] [(.ref (ad 0))])) rfl (by rw [hml]; rfl) (argsL := []) (rest := []) (lenOf own_pd7 rfl) rfl (Nat.le_of_eq rfl) (hb hby at_417) rfl (by decide) (by decide)
      obtain ⟨rfl, Hn117, Kn117, Nn117⟩ := hQ118
      refine Gd.go (fun _ w_k => st118 _ w_k) ?_
      show Gd _ _ _ _ (T118.setTop (mkF m 420 #[.val (.long la), .second, .val (.long lb), .second, .val (.long lc), .second, .val (.int mm), .val (.long u0), .second, .val (.long f0), .second, .val (.long u1), .second, .val (.long f1), .second, .val (.long u2), .second, .val (.long f2), .second, .val (.ref (ad 0)), .val (.ref b28), .val (.ref b53), .val (.int (1 : Int32)), .val (.int (1 : Int32)), .val (.int (0 : Int32)), .val (.int (1 : Int32)), .val (.int (1 : Int32)), .unset, .unset] []))
      have xN119 := Fr.app xN112 Nn117
      have xF120 := xF113.keep Kn117 (ninS (Ne.symm (lt_q 0 (by decide))) nin0)
      have xF121 := xF114.keep Kn117 (ninS (Ne.symm (lt_bp 0 (by decide))) nin0)
      rw [if_neg w2, if_neg w2] at Hn117
      refine Gd.go (fun _ w_k => XS.iload X118.here hx rfl (hb hby at_420) rfl (XS.iconst X118.here hx rfl (hb hby at_422) (XS.icmpNo X118.here hx rfl (hb hby at_423) rfl (teq (by decide)).2 w_k))) ?_
      show Gd _ _ _ _ (T118.setTop (mkF m 426 #[.val (.long la), .second, .val (.long lb), .second, .val (.long lc), .second, .val (.int mm), .val (.long u0), .second, .val (.long f0), .second, .val (.long u1), .second, .val (.long f1), .second, .val (.long u2), .second, .val (.long f2), .second, .val (.ref (ad 0)), .val (.ref b28), .val (.ref b53), .val (.int (1 : Int32)), .val (.int (1 : Int32)), .val (.int (0 : Int32)), .val (.int (1 : Int32)), .val (.int (1 : Int32)), .unset, .unset] []))
      refine Gd.go (fun _ w_k => XS.iload X118.here hx rfl (hb hby at_426) rfl (XS.ifYes X118.here hx rfl (pc0 := 428) (pc' := 435) rfl (hb hby at_428) rfl ((if0 _ _).trans (teq (by decide)).1) (by decide) (by decide) w_k)) ?_
      show Gd _ _ _ _ (T118.setTop (mkF m 435 #[.val (.long la), .second, .val (.long lb), .second, .val (.long lc), .second, .val (.int mm), .val (.long u0), .second, .val (.long f0), .second, .val (.long u1), .second, .val (.long f1), .second, .val (.long u2), .second, .val (.long f2), .second, .val (.ref (ad 0)), .val (.ref b28), .val (.ref b53), .val (.int (1 : Int32)), .val (.int (1 : Int32)), .val (.int (0 : Int32)), .val (.int (1 : Int32)), .val (.int (1 : Int32)), .unset, .unset] []))
      refine Gd.go (fun _ w_k => XS.iconst X118.here hx rfl (hb hby at_435) (XS.istore X118.here hx rfl (hb hby at_436) rfl (l' := #[.val (.long la), .second, .val (.long lb), .second, .val (.long lc), .second, .val (.int mm), .val (.long u0), .second, .val (.long f0), .second, .val (.long u1), .second, .val (.long f1), .second, .val (.long u2), .second, .val (.long f2), .second, .val (.ref (ad 0)), .val (.ref b28), .val (.ref b53), .val (.int (1 : Int32)), .val (.int (1 : Int32)), .val (.int (0 : Int32)), .val (.int (1 : Int32)), .val (.int (1 : Int32)), .val (.int (3 : Int32)), .unset]) rfl (XS.aload X118.here hx rfl (hb hby at_438) rfl rfl w_k))) ?_
      show Gd _ _ _ _ (T118.setTop (mkF m 440 #[.val (.long la), .second, .val (.long lb), .second, .val (.long lc), .second, .val (.int mm), .val (.long u0), .second, .val (.long f0), .second, .val (.long u1), .second, .val (.long f1), .second, .val (.long u2), .second, .val (.long f2), .second, .val (.ref (ad 0)), .val (.ref b28), .val (.ref b53), .val (.int (1 : Int32)), .val (.int (1 : Int32)), .val (.int (0 : Int32)), .val (.int (1 : Int32)), .val (.int (1 : Int32)), .val (.int (3 : Int32)), .unset] [(.ref (ad 0))]))
      obtain ⟨T122, X122, e122, st122⟩ := own_callVP X118 hx hZ (C := "com/example/nearfield/nearfield/job/RankedReads") (y := (⟨"com/example/nearfield/nearfield/job/RankedReads", "index", "()I"⟩ : MethodName)) hown (ow hw 140 rfl) (ow hw 141 rfl) (ow hw 143 rfl) (ow hw 142 rfl) (ow hw 4 rfl) (ow hw 144 rfl) (by decide) Hn117.2.2.1 (W := 0) (own_c23 l Z a0 hw T118.heap n0 ad (ad 2) (ad 1) (0 : Int32) (3 : Int32) (3 : Int32) an_2 (3 : Int32) sb (0 : Int32) (3 : Int32) (0 : Int32) (0 : Int64) (0 : Int64) (0 : Int64) sa sb sc sa sb sc (0 : Int32) (0 : Int32) (0 : Int32) (0 : Int32) (0 : Int32) (0 : Int32) (0 : Int32) (0 : Int32) (0 : Int32) (own_mk mm (1 : Int32)) (own_mk mm (2 : Int32)) (own_mk mm (4 : Int32)) Hn117) rfl rfl rfl (by decide) (by decide) (g := (mkF m 440 #[.val (.long la), .second, .val (.long lb), .second, .val (.long lc), .second, .val (.int mm), .val (.long u0), .second, .val (.long f0), .second, .val (.long u1), .second, .val (.long f1), .second, .val (.long u2), .second, .val (.long f2), .second, .val (.ref (ad 0)), .val (.ref b28), .val (.ref b53), .val (.int (1 : Int32)), .val (.int (1 : Int32)), .val (.int (0 : Int32)), .val (.int (1 : Int32)), .val (.int (1 : Int32)), .val (.int (3 : Int32)), .unset] [(.ref (ad 0))])) rfl (by rw [hml]; rfl) (argsL := []) (rest := []) (lenOf own_pd13 rfl) rfl (Nat.le_of_eq rfl) (hb hby at_440) rfl
      refine Gd.go (fun _ w_k => st122 _ (XS.istore X122.here hx rfl (hb hby at_443) rfl (l' := #[.val (.long la), .second, .val (.long lb), .second, .val (.long lc), .second, .val (.int mm), .val (.long u0), .second, .val (.long f0), .second, .val (.long u1), .second, .val (.long f1), .second, .val (.long u2), .second, .val (.long f2), .second, .val (.ref (ad 0)), .val (.ref b28), .val (.ref b53), .val (.int (1 : Int32)), .val (.int (1 : Int32)), .val (.int (0 : Int32)), .val (.int (1 : Int32)), .val (.int (1 : Int32)), .val (.int (3 : Int32)), .val (.int (3 : Int32))]) rfl (XS.iload X122.here hx rfl (hb hby at_445) rfl (XS.ifNo X122.here hx rfl (hb hby at_447) rfl ((if0 _ _).trans (feq (by decide)).1) w_k)))) ?_
      show Gd _ _ _ _ (T122.setTop (mkF m 450 #[.val (.long la), .second, .val (.long lb), .second, .val (.long lc), .second, .val (.int mm), .val (.long u0), .second, .val (.long f0), .second, .val (.long u1), .second, .val (.long f1), .second, .val (.long u2), .second, .val (.long f2), .second, .val (.ref (ad 0)), .val (.ref b28), .val (.ref b53), .val (.int (1 : Int32)), .val (.int (1 : Int32)), .val (.int (0 : Int32)), .val (.int (1 : Int32)), .val (.int (1 : Int32)), .val (.int (3 : Int32)), .val (.int (3 : Int32))] []))
      refine Gd.go (fun _ w_k => XS.iload X122.here hx rfl (hb hby at_450) rfl (XS.iload X122.here hx rfl (hb hby at_452) rfl (XS.icmpNo X122.here hx rfl (hb hby at_454) rfl (teq (by decide)).2 w_k))) ?_
      show Gd _ _ _ _ (T122.setTop (mkF m 457 #[.val (.long la), .second, .val (.long lb), .second, .val (.long lc), .second, .val (.int mm), .val (.long u0), .second, .val (.long f0), .second, .val (.long u1), .second, .val (.long f1), .second, .val (.long u2), .second, .val (.long f2), .second, .val (.ref (ad 0)), .val (.ref b28), .val (.ref b53), .val (.int (1 : Int32)), .val (.int (1 : Int32)), .val (.int (0 : Int32)), .val (.int (1 : Int32)), .val (.int (1 : Int32)), .val (.int (3 : Int32)), .val (.int (3 : Int32))] []))
      refine Gd.go (fun _ w_k => XS.iconst X122.here hx rfl (hb hby at_457) (XS.goto X122.here hx rfl (pc0 := 458) (pc' := 462) rfl (hb hby at_458) (by decide) (by decide) (XS.istore X122.here hx rfl (hb hby at_462) rfl (l' := #[.val (.long la), .second, .val (.long lb), .second, .val (.long lc), .second, .val (.int mm), .val (.long u0), .second, .val (.long f0), .second, .val (.long u1), .second, .val (.long f1), .second, .val (.long u2), .second, .val (.long f2), .second, .val (.ref (ad 0)), .val (.ref b28), .val (.ref b53), .val (.int (1 : Int32)), .val (.int (1 : Int32)), .val (.int (0 : Int32)), .val (.int (1 : Int32)), .val (.int (1 : Int32)), .val (.int (3 : Int32)), .val (.int (3 : Int32))]) rfl (XS.iload X122.here hx rfl (hb hby at_464) rfl (XS.iconst X122.here hx rfl (hb hby at_466) (XS.icmpYes X122.here hx rfl (pc0 := 467) (pc' := 498) rfl (hb hby at_467) rfl (teq (by decide)).1 (by decide) (by decide) w_k)))))) ?_
      show Gd _ _ _ _ (T122.setTop (mkF m 498 #[.val (.long la), .second, .val (.long lb), .second, .val (.long lc), .second, .val (.int mm), .val (.long u0), .second, .val (.long f0), .second, .val (.long u1), .second, .val (.long f1), .second, .val (.long u2), .second, .val (.long f2), .second, .val (.ref (ad 0)), .val (.ref b28), .val (.ref b53), .val (.int (1 : Int32)), .val (.int (1 : Int32)), .val (.int (0 : Int32)), .val (.int (1 : Int32)), .val (.int (1 : Int32)), .val (.int (3 : Int32)), .val (.int (3 : Int32))] []))
      refine Gd.go (fun _ w_k => XS.iload X122.here hx rfl (hb hby at_498) rfl w_k) ?_
      show Gd _ _ _ _ (T122.setTop (mkF m 500 #[.val (.long la), .second, .val (.long lb), .second, .val (.long lc), .second, .val (.int mm), .val (.long u0), .second, .val (.long f0), .second, .val (.long u1), .second, .val (.long f1), .second, .val (.long u2), .second, .val (.long f2), .second, .val (.ref (ad 0)), .val (.ref b28), .val (.ref b53), .val (.int (1 : Int32)), .val (.int (1 : Int32)), .val (.int (0 : Int32)), .val (.int (1 : Int32)), .val (.int (1 : Int32)), .val (.int (3 : Int32)), .val (.int (3 : Int32))] [(.int (1 : Int32))]))
      refine own_retN (t := .boolean) X122 hx hret hlk (by simp) (hb hby at_500) ?_ (by decide) (by decide)
      exact ⟨rfl, xN119⟩
  · have v1 : ¬ (own_k (own_mk mm (1 : Int32)) (own_mk mm (2 : Int32)) (own_mk mm (4 : Int32)) B1) = (0 : Int32) := by rw [← eB1]; exact w1
    by_cases w2 : (own_k (own_mk mm (1 : Int32)) (own_mk mm (2 : Int32)) (own_mk mm (4 : Int32)) ((sc &&& (3 : Int64)).toInt32)) = (0 : Int32)
    · have v2 : (own_k (own_mk mm (1 : Int32)) (own_mk mm (2 : Int32)) (own_mk mm (4 : Int32)) B2) = (0 : Int32) := by rw [← eB2]; exact w2
      refine Gd.go (fun _ w_k => XS.iload X_2.here hx rfl (hb hby at_271) rfl (XS.aload X_2.here hx rfl (hb hby at_273) rfl rfl (XS.iconst X_2.here hx rfl (hb hby at_275) (own_ldI X_2 hx hZ rfl P_2 (j := (1 : Int32)) (by decide) (by decide) (v := (.int B1)) rfl (g := (mkF m 276 #[.val (.long la), .second, .val (.long lb), .second, .val (.long lc), .second, .val (.int mm), .val (.long u0), .second, .val (.long f0), .second, .val (.long u1), .second, .val (.long f1), .second, .val (.long u2), .second, .val (.long f2), .second, .val (.ref (ad 0)), .val (.ref b28), .val (.ref b53), .val (.int (1 : Int32)), .unset, .unset, .unset, .unset, .unset, .unset] [(.int (1 : Int32)), (.ref b53), (.int mm)])) rfl rfl (hb hby at_276) _ (XS.ishr X_2.here hx rfl (hb hby at_277) rfl (XS.iconst X_2.here hx rfl (hb hby at_278) (XS.iand X_2.here hx rfl (hb hby at_279) rfl (XS.ifYes X_2.here hx rfl (pc0 := 280) (pc' := 287) rfl (hb hby at_280) rfl ((if0 _ _).trans (feq (fun q => v1 ((own_bitk mm gB1).mp q))).2) (by decide) (by decide) w_k)))))))) ?_
      show Gd _ _ _ _ (T_2.setTop (mkF m 287 #[.val (.long la), .second, .val (.long lb), .second, .val (.long lc), .second, .val (.int mm), .val (.long u0), .second, .val (.long f0), .second, .val (.long u1), .second, .val (.long f1), .second, .val (.long u2), .second, .val (.long f2), .second, .val (.ref (ad 0)), .val (.ref b28), .val (.ref b53), .val (.int (1 : Int32)), .unset, .unset, .unset, .unset, .unset, .unset] []))
      refine Gd.go (fun _ w_k => XS.iconst X_2.here hx rfl (hb hby at_287) (XS.istore X_2.here hx rfl (hb hby at_288) rfl (l' := #[.val (.long la), .second, .val (.long lb), .second, .val (.long lc), .second, .val (.int mm), .val (.long u0), .second, .val (.long f0), .second, .val (.long u1), .second, .val (.long f1), .second, .val (.long u2), .second, .val (.long f2), .second, .val (.ref (ad 0)), .val (.ref b28), .val (.ref b53), .val (.int (1 : Int32)), .val (.int (0 : Int32)), .unset, .unset, .unset, .unset, .unset]) rfl (XS.iload X_2.here hx rfl (hb hby at_290) rfl (XS.aload X_2.here hx rfl (hb hby at_292) rfl rfl (XS.iconst X_2.here hx rfl (hb hby at_294) (own_ldI X_2 hx hZ rfl P_2 (j := (2 : Int32)) (by decide) (by decide) (v := (.int B2)) rfl (g := (mkF m 295 #[.val (.long la), .second, .val (.long lb), .second, .val (.long lc), .second, .val (.int mm), .val (.long u0), .second, .val (.long f0), .second, .val (.long u1), .second, .val (.long f1), .second, .val (.long u2), .second, .val (.long f2), .second, .val (.ref (ad 0)), .val (.ref b28), .val (.ref b53), .val (.int (1 : Int32)), .val (.int (0 : Int32)), .unset, .unset, .unset, .unset, .unset] [(.int (2 : Int32)), (.ref b53), (.int mm)])) rfl rfl (hb hby at_295) _ (XS.ishr X_2.here hx rfl (hb hby at_296) rfl (XS.iconst X_2.here hx rfl (hb hby at_297) (XS.iand X_2.here hx rfl (hb hby at_298) rfl (XS.ifNo X_2.here hx rfl (hb hby at_299) rfl ((if0 _ _).trans (teq ((own_bitk mm gB2).mpr v2)).2) w_k)))))))))) ?_
      show Gd _ _ _ _ (T_2.setTop (mkF m 302 #[.val (.long la), .second, .val (.long lb), .second, .val (.long lc), .second, .val (.int mm), .val (.long u0), .second, .val (.long f0), .second, .val (.long u1), .second, .val (.long f1), .second, .val (.long u2), .second, .val (.long f2), .second, .val (.ref (ad 0)), .val (.ref b28), .val (.ref b53), .val (.int (1 : Int32)), .val (.int (0 : Int32)), .unset, .unset, .unset, .unset, .unset] []))
      refine Gd.go (fun _ w_k => XS.iconst X_2.here hx rfl (hb hby at_302) (XS.goto X_2.here hx rfl (pc0 := 303) (pc' := 307) rfl (hb hby at_303) (by decide) (by decide) (XS.istore X_2.here hx rfl (hb hby at_307) rfl (l' := #[.val (.long la), .second, .val (.long lb), .second, .val (.long lc), .second, .val (.int mm), .val (.long u0), .second, .val (.long f0), .second, .val (.long u1), .second, .val (.long f1), .second, .val (.long u2), .second, .val (.long f2), .second, .val (.ref (ad 0)), .val (.ref b28), .val (.ref b53), .val (.int (1 : Int32)), .val (.int (0 : Int32)), .val (.int (1 : Int32)), .unset, .unset, .unset, .unset]) rfl (XS.aload X_2.here hx rfl (hb hby at_309) rfl rfl w_k)))) ?_
      show Gd _ _ _ _ (T_2.setTop (mkF m 311 #[.val (.long la), .second, .val (.long lb), .second, .val (.long lc), .second, .val (.int mm), .val (.long u0), .second, .val (.long f0), .second, .val (.long u1), .second, .val (.long f1), .second, .val (.long u2), .second, .val (.long f2), .second, .val (.ref (ad 0)), .val (.ref b28), .val (.ref b53), .val (.int (1 : Int32)), .val (.int (0 : Int32)), .val (.int (1 : Int32)), .unset, .unset, .unset, .unset] [(.ref (ad 0))]))
      obtain ⟨v124, T124, L124, X124, hQ124, st124⟩ := own_callV X_2 hx hZ (C := "com/example/nearfield/nearfield/job/RankedReads") (y := (⟨"com/example/nearfield/nearfield/job/RankedReads", "next", "()V"⟩ : MethodName)) hown (ow hw 155 rfl) (ow hw 127 rfl) (ow hw 129 rfl) (ow hw 128 rfl) (ow hw 4 rfl) (ow hw 130 rfl) (by decide) H_2.2.2.1 (W := 0) (own_c20_0 l Z a0 hw T_2.heap n0 ad (ad 1) (0 : Int32) (3 : Int32) (3 : Int32) an_2 sa (0 : Int32) (0 : Int32) (0 : Int64) (0 : Int64) (0 : Int64) sa sb sc sa sb sc (0 : Int32) (0 : Int32) (0 : Int32) (0 : Int32) (0 : Int32) (0 : Int32) (own_mk mm (1 : Int32)) (own_mk mm (2 : Int32)) (own_mk mm (4 : Int32)) (own_ixL eB0 gB0) (own_ixL eB1 gB1) (own_ixL eB2 gB2) H_2) rfl rfl rfl (by decide) (by decide) (g := (mkF m 311 #[.val (.long la), .second, .val (.long lb), .second, .val (.long lc), .second, .val (.int mm), .val (.long u0), .second, .val (.long f0), .second, .val (.long u1), .second, .val (.long f1), .second, .val (.long u2), .second, .val (.long f2), .second, .val (.ref (ad 0)), .val (.ref b28), .val (.ref b53), .val (.int (1 : Int32)), .val (.int (0 : Int32)), .val (.int (1 : Int32)), .unset, .unset, .unset, .unset] [(.ref (ad 0))])) rfl (by rw [hml]; rfl) (argsL := []) (rest := []) (lenOf own_pd7 rfl) rfl (Nat.le_of_eq rfl) (hb hby at_311) rfl (by decide) (by decide)
      obtain ⟨rfl, Hn123, Kn123, Nn123⟩ := hQ124
      refine Gd.go (fun _ w_k => st124 _ w_k) ?_
      show Gd _ _ _ _ (T124.setTop (mkF m 314 #[.val (.long la), .second, .val (.long lb), .second, .val (.long lc), .second, .val (.int mm), .val (.long u0), .second, .val (.long f0), .second, .val (.long u1), .second, .val (.long f1), .second, .val (.long u2), .second, .val (.long f2), .second, .val (.ref (ad 0)), .val (.ref b28), .val (.ref b53), .val (.int (1 : Int32)), .val (.int (0 : Int32)), .val (.int (1 : Int32)), .unset, .unset, .unset, .unset] []))
      have xN125 := Fr.app N_2 Nn123
      have xF126 := Q_2.keep Kn123 (ninS (Ne.symm (lt_q 0 (by decide))) nin0)
      have xF127 := P_2.keep Kn123 (ninS (Ne.symm (lt_bp 0 (by decide))) nin0)
      rw [if_neg w1, if_neg w1, if_pos w2, if_pos w2] at Hn123
      refine Gd.go (fun _ w_k => XS.iload X124.here hx rfl (hb hby at_314) rfl (XS.ifYes X124.here hx rfl (pc0 := 316) (pc' := 323) rfl (hb hby at_316) rfl ((if0 _ _).trans (teq (by decide)).1) (by decide) (by decide) w_k)) ?_
      show Gd _ _ _ _ (T124.setTop (mkF m 323 #[.val (.long la), .second, .val (.long lb), .second, .val (.long lc), .second, .val (.int mm), .val (.long u0), .second, .val (.long f0), .second, .val (.long u1), .second, .val (.long f1), .second, .val (.long u2), .second, .val (.long f2), .second, .val (.ref (ad 0)), .val (.ref b28), .val (.ref b53), .val (.int (1 : Int32)), .val (.int (0 : Int32)), .val (.int (1 : Int32)), .unset, .unset, .unset, .unset] []))
      refine Gd.go (fun _ w_k => XS.iload X124.here hx rfl (hb hby at_323) rfl (XS.ifNo X124.here hx rfl (hb hby at_325) rfl ((if0 _ _).trans (feq (by decide)).1) w_k)) ?_
      show Gd _ _ _ _ (T124.setTop (mkF m 328 #[.val (.long la), .second, .val (.long lb), .second, .val (.long lc), .second, .val (.int mm), .val (.long u0), .second, .val (.long f0), .second, .val (.long u1), .second, .val (.long f1), .second, .val (.long u2), .second, .val (.long f2), .second, .val (.ref (ad 0)), .val (.ref b28), .val (.ref b53), .val (.int (1 : Int32)), .val (.int (0 : Int32)), .val (.int (1 : Int32)), .unset, .unset, .unset, .unset] []))
      refine Gd.go (fun _ w_k => XS.iconst X124.here hx rfl (hb hby at_328) (XS.goto X124.here hx rfl (pc0 := 329) (pc' := 333) rfl (hb hby at_329) (by decide) (by decide) (XS.istore X124.here hx rfl (hb hby at_333) rfl (l' := #[.val (.long la), .second, .val (.long lb), .second, .val (.long lc), .second, .val (.int mm), .val (.long u0), .second, .val (.long f0), .second, .val (.long u1), .second, .val (.long f1), .second, .val (.long u2), .second, .val (.long f2), .second, .val (.ref (ad 0)), .val (.ref b28), .val (.ref b53), .val (.int (1 : Int32)), .val (.int (0 : Int32)), .val (.int (1 : Int32)), .val (.int (2 : Int32)), .unset, .unset, .unset]) rfl (XS.aload X124.here hx rfl (hb hby at_335) rfl rfl w_k)))) ?_
      show Gd _ _ _ _ (T124.setTop (mkF m 337 #[.val (.long la), .second, .val (.long lb), .second, .val (.long lc), .second, .val (.int mm), .val (.long u0), .second, .val (.long f0), .second, .val (.long u1), .second, .val (.long f1), .second, .val (.long u2), .second, .val (.long f2), .second, .val (.ref (ad 0)), .val (.ref b28), .val (.ref b53), .val (.int (1 : Int32)), .val (.int (0 : Int32)), .val (.int (1 : Int32)), .val (.int (2 : Int32)), .unset, .unset, .unset] [(.ref (ad 0))]))
      obtain ⟨T128, X128, e128, st128⟩ := own_callVP X124 hx hZ (C := "com/example/nearfield/nearfield/job/RankedReads") (y := (⟨"com/example/nearfield/nearfield/job/RankedReads", "index", "()I"⟩ : MethodName)) hown (ow hw 140 rfl) (ow hw 141 rfl) (ow hw 143 rfl) (ow hw 142 rfl) (ow hw 4 rfl) (ow hw 144 rfl) (by decide) Hn123.2.2.1 (W := 0) (own_c23 l Z a0 hw T124.heap n0 ad (ad 2) (ad 1) (0 : Int32) (3 : Int32) (3 : Int32) an_2 (2 : Int32) sc (0 : Int32) (3 : Int32) (0 : Int32) (0 : Int64) (0 : Int64) (0 : Int64) sa sb sc sa sb sc (0 : Int32) (0 : Int32) (0 : Int32) (0 : Int32) (0 : Int32) (0 : Int32) (0 : Int32) (0 : Int32) (0 : Int32) (own_mk mm (1 : Int32)) (own_mk mm (2 : Int32)) (own_mk mm (4 : Int32)) Hn123) rfl rfl rfl (by decide) (by decide) (g := (mkF m 337 #[.val (.long la), .second, .val (.long lb), .second, .val (.long lc), .second, .val (.int mm), .val (.long u0), .second, .val (.long f0), .second, .val (.long u1), .second, .val (.long f1), .second, .val (.long u2), .second, .val (.long f2), .second, .val (.ref (ad 0)), .val (.ref b28), .val (.ref b53), .val (.int (1 : Int32)), .val (.int (0 : Int32)), .val (.int (1 : Int32)), .val (.int (2 : Int32)), .unset, .unset, .unset] [(.ref (ad 0))])) rfl (by rw [hml]; rfl) (argsL := []) (rest := []) (lenOf own_pd13 rfl) rfl (Nat.le_of_eq rfl) (hb hby at_337) rfl
      refine Gd.go (fun _ w_k => st128 _ (XS.istore X128.here hx rfl (hb hby at_340) rfl (l' := #[.val (.long la), .second, .val (.long lb), .second, .val (.long lc), .second, .val (.int mm), .val (.long u0), .second, .val (.long f0), .second, .val (.long u1), .second, .val (.long f1), .second, .val (.long u2), .second, .val (.long f2), .second, .val (.ref (ad 0)), .val (.ref b28), .val (.ref b53), .val (.int (1 : Int32)), .val (.int (0 : Int32)), .val (.int (1 : Int32)), .val (.int (2 : Int32)), .val (.int (2 : Int32)), .unset, .unset]) rfl (XS.iload X128.here hx rfl (hb hby at_342) rfl (XS.ifNo X128.here hx rfl (hb hby at_344) rfl ((if0 _ _).trans (feq (by decide)).1) w_k)))) ?_
      show Gd _ _ _ _ (T128.setTop (mkF m 347 #[.val (.long la), .second, .val (.long lb), .second, .val (.long lc), .second, .val (.int mm), .val (.long u0), .second, .val (.long f0), .second, .val (.long u1), .second, .val (.long f1), .second, .val (.long u2), .second, .val (.long f2), .second, .val (.ref (ad 0)), .val (.ref b28), .val (.ref b53), .val (.int (1 : Int32)), .val (.int (0 : Int32)), .val (.int (1 : Int32)), .val (.int (2 : Int32)), .val (.int (2 : Int32)), .unset, .unset] []))
      refine Gd.go (fun _ w_k => XS.iload X128.here hx rfl (hb hby at_347) rfl (XS.iload X128.here hx rfl (hb hby at_349) rfl (XS.icmpNo X128.here hx rfl (hb hby at_351) rfl (teq (by decide)).2 w_k))) ?_
      show Gd _ _ _ _ (T128.setTop (mkF m 354 #[.val (.long la), .second, .val (.long lb), .second, .val (.long lc), .second, .val (.int mm), .val (.long u0), .second, .val (.long f0), .second, .val (.long u1), .second, .val (.long f1), .second, .val (.long u2), .second, .val (.long f2), .second, .val (.ref (ad 0)), .val (.ref b28), .val (.ref b53), .val (.int (1 : Int32)), .val (.int (0 : Int32)), .val (.int (1 : Int32)), .val (.int (2 : Int32)), .val (.int (2 : Int32)), .unset, .unset] []))
      refine Gd.go (fun _ w_k => XS.iconst X128.here hx rfl (hb hby at_354) (XS.goto X128.here hx rfl (pc0 := 355) (pc' := 359) rfl (hb hby at_355) (by decide) (by decide) (XS.istore X128.here hx rfl (hb hby at_359) rfl (l' := #[.val (.long la), .second, .val (.long lb), .second, .val (.long lc), .second, .val (.int mm), .val (.long u0), .second, .val (.long f0), .second, .val (.long u1), .second, .val (.long f1), .second, .val (.long u2), .second, .val (.long f2), .second, .val (.ref (ad 0)), .val (.ref b28), .val (.ref b53), .val (.int (1 : Int32)), .val (.int (0 : Int32)), .val (.int (1 : Int32)), .val (.int (2 : Int32)), .val (.int (2 : Int32)), .unset, .unset]) rfl (XS.iload X128.here hx rfl (hb hby at_361) rfl (XS.iconst X128.here hx rfl (hb hby at_363) (XS.icmpYes X128.here hx rfl (pc0 := 364) (pc' := 386) rfl (hb hby at_364) rfl (feq (by decide)).2 (by decide) (by decide) w_k)))))) ?_
      show Gd _ _ _ _ (T128.setTop (mkF m 386 #[.val (.long la), .second, .val (.long lb), .second, .val (.long lc), .second, .val (.int mm), .val (.long u0), .second, .val (.long f0), .second, .val (.long u1), .second, .val (.long f1), .second, .val (.long u2), .second, .val (.long f2), .second, .val (.ref (ad 0)), .val (.ref b28), .val (.ref b53), .val (.int (1 : Int32)), .val (.int (0 : Int32)), .val (.int (1 : Int32)), .val (.int (2 : Int32)), .val (.int (2 : Int32)), .unset, .unset] []))
      refine Gd.go (fun _ w_k => XS.iload X128.here hx rfl (hb hby at_386) rfl (XS.ifNo X128.here hx rfl (hb hby at_388) rfl ((if0 _ _).trans (feq (by decide)).1) w_k)) ?_
      show Gd _ _ _ _ (T128.setTop (mkF m 391 #[.val (.long la), .second, .val (.long lb), .second, .val (.long lc), .second, .val (.int mm), .val (.long u0), .second, .val (.long f0), .second, .val (.long u1), .second, .val (.long f1), .second, .val (.long u2), .second, .val (.long f2), .second, .val (.ref (ad 0)), .val (.ref b28), .val (.ref b53), .val (.int (1 : Int32)), .val (.int (0 : Int32)), .val (.int (1 : Int32)), .val (.int (2 : Int32)), .val (.int (2 : Int32)), .unset, .unset] []))
      refine Gd.go (fun _ w_k => XS.aload X128.here hx rfl (hb hby at_391) rfl rfl w_k) ?_
      show Gd _ _ _ _ (T128.setTop (mkF m 393 #[.val (.long la), .second, .val (.long lb), .second, .val (.long lc), .second, .val (.int mm), .val (.long u0), .second, .val (.long f0), .second, .val (.long u1), .second, .val (.long f1), .second, .val (.long u2), .second, .val (.long f2), .second, .val (.ref (ad 0)), .val (.ref b28), .val (.ref b53), .val (.int (1 : Int32)), .val (.int (0 : Int32)), .val (.int (1 : Int32)), .val (.int (2 : Int32)), .val (.int (2 : Int32)), .unset, .unset] [(.ref (ad 0))]))
      obtain ⟨T129, X129, e129, st129⟩ := own_callVP X128 hx hZ (C := "com/example/nearfield/nearfield/job/RankedReads") (y := (⟨"com/example/nearfield/nearfield/job/RankedReads", "packedNext", "()J"⟩ : MethodName)) hown (ow hw 145 rfl) (ow hw 146 rfl) (ow hw 148 rfl) (ow hw 147 rfl) (ow hw 4 rfl) (ow hw 149 rfl) (by decide) Hn123.2.2.1 (W := 0) (own_c24 l Z a0 hw T124.heap n0 ad (ad 2) (ad 1) (0 : Int32) (3 : Int32) (3 : Int32) an_2 (2 : Int32) sc (0 : Int32) (3 : Int32) (0 : Int32) (0 : Int64) (0 : Int64) (0 : Int64) sa sb sc sa sb sc (0 : Int32) (0 : Int32) (0 : Int32) (0 : Int32) (0 : Int32) (0 : Int32) (0 : Int32) (0 : Int32) (0 : Int32) (own_mk mm (1 : Int32)) (own_mk mm (2 : Int32)) (own_mk mm (4 : Int32)) Hn123) rfl rfl e128 (by decide) (by decide) (g := (mkF m 393 #[.val (.long la), .second, .val (.long lb), .second, .val (.long lc), .second, .val (.int mm), .val (.long u0), .second, .val (.long f0), .second, .val (.long u1), .second, .val (.long f1), .second, .val (.long u2), .second, .val (.long f2), .second, .val (.ref (ad 0)), .val (.ref b28), .val (.ref b53), .val (.int (1 : Int32)), .val (.int (0 : Int32)), .val (.int (1 : Int32)), .val (.int (2 : Int32)), .val (.int (2 : Int32)), .unset, .unset] [(.ref (ad 0))])) rfl (by rw [hml]; rfl) (argsL := []) (rest := []) (lenOf own_pd14 rfl) rfl (Nat.le_of_eq rfl) (hb hby at_393) rfl
      refine Gd.go (fun _ w_k => st129 _ (XS.aload X129.here hx rfl (hb hby at_396) rfl rfl (XS.aload X129.here hx rfl (hb hby at_398) rfl rfl (XS.iload X129.here hx rfl (hb hby at_400) rfl (own_ldI X129 hx hZ e129 xF127 (j := (2 : Int32)) (by decide) (by decide) (v := (.int B2)) rfl (g := (mkF m 402 #[.val (.long la), .second, .val (.long lb), .second, .val (.long lc), .second, .val (.int mm), .val (.long u0), .second, .val (.long f0), .second, .val (.long u1), .second, .val (.long f1), .second, .val (.long u2), .second, .val (.long f2), .second, .val (.ref (ad 0)), .val (.ref b28), .val (.ref b53), .val (.int (1 : Int32)), .val (.int (0 : Int32)), .val (.int (1 : Int32)), .val (.int (2 : Int32)), .val (.int (2 : Int32)), .unset, .unset] [(.int (2 : Int32)), (.ref b53), (.ref b28), (.long sc)])) rfl rfl (hb hby at_402) _ (own_ldJ X129 hx hZ e129 xF126 (j := B2) gB2.1 gB2.2 (v := (.long sc)) eJ2 (g := (mkF m 403 #[.val (.long la), .second, .val (.long lb), .second, .val (.long lc), .second, .val (.int mm), .val (.long u0), .second, .val (.long f0), .second, .val (.long u1), .second, .val (.long f1), .second, .val (.long u2), .second, .val (.long f2), .second, .val (.ref (ad 0)), .val (.ref b28), .val (.ref b53), .val (.int (1 : Int32)), .val (.int (0 : Int32)), .val (.int (1 : Int32)), .val (.int (2 : Int32)), .val (.int (2 : Int32)), .unset, .unset] [(.int B2), (.ref b28), (.long sc)])) rfl rfl (hb hby at_403) _ (XS.lcmp X129.here hx rfl (hb hby at_404) rfl (XS.ifNo X129.here hx rfl (hb hby at_405) rfl ((if0 _ _).trans (teq ((lw_eq _ _).mpr rfl)).2) w_k)))))))) ?_
      show Gd _ _ _ _ (T129.setTop (mkF m 408 #[.val (.long la), .second, .val (.long lb), .second, .val (.long lc), .second, .val (.int mm), .val (.long u0), .second, .val (.long f0), .second, .val (.long u1), .second, .val (.long f1), .second, .val (.long u2), .second, .val (.long f2), .second, .val (.ref (ad 0)), .val (.ref b28), .val (.ref b53), .val (.int (1 : Int32)), .val (.int (0 : Int32)), .val (.int (1 : Int32)), .val (.int (2 : Int32)), .val (.int (2 : Int32)), .unset, .unset] []))
      refine Gd.go (fun _ w_k => XS.iconst X129.here hx rfl (hb hby at_408) (XS.goto X129.here hx rfl (pc0 := 409) (pc' := 413) rfl (hb hby at_409) (by decide) (by decide) (XS.istore X129.here hx rfl (hb hby at_413) rfl (l' := #[.val (.long la), .second, .val (.long lb), .second, .val (.long lc), .second, .val (.int mm), .val (.long u0), .second, .val (.long f0), .second, .val (.long u1), .second, .val (.long f1), .second, .val (.long u2), .second, .val (.long f2), .second, .val (.ref (ad 0)), .val (.ref b28), .val (.ref b53), .val (.int (1 : Int32)), .val (.int (0 : Int32)), .val (.int (1 : Int32)), .val (.int (2 : Int32)), .val (.int (2 : Int32)), .unset, .unset]) rfl (XS.aload X129.here hx rfl (hb hby at_415) rfl rfl w_k)))) ?_
      show Gd _ _ _ _ (T129.setTop (mkF m 417 #[.val (.long la), .second, .val (.long lb), .second, .val (.long lc), .second, .val (.int mm), .val (.long u0), .second, .val (.long f0), .second, .val (.long u1), .second, .val (.long f1), .second, .val (.long u2), .second, .val (.long f2), .second, .val (.ref (ad 0)), .val (.ref b28), .val (.ref b53), .val (.int (1 : Int32)), .val (.int (0 : Int32)), .val (.int (1 : Int32)), .val (.int (2 : Int32)), .val (.int (2 : Int32)), .unset, .unset] [(.ref (ad 0))]))
      obtain ⟨v131, T131, L131, X131, hQ131, st131⟩ := own_callV X129 hx hZ (C := "com/example/nearfield/nearfield/job/RankedReads") (y := (⟨"com/example/nearfield/nearfield/job/RankedReads", "next", "()V"⟩ : MethodName)) hown (ow hw 155 rfl) (ow hw 127 rfl) (ow hw 129 rfl) (ow hw 128 rfl) (ow hw 4 rfl) (ow hw 130 rfl) (by decide) Hn123.2.2.1 (W := 0) (own_c20_2 l Z a0 hw T124.heap n0 ad (ad 1) (0 : Int32) (3 : Int32) (3 : Int32) an_2 sc (0 : Int32) (0 : Int32) (0 : Int64) (0 : Int64) (0 : Int64) sa sb sc sa sb sc (0 : Int32) (0 : Int32) (0 : Int32) (0 : Int32) (0 : Int32) (0 : Int32) (own_mk mm (1 : Int32)) (own_mk mm (2 : Int32)) (own_mk mm (4 : Int32)) (own_ixL eB0 gB0) (own_ixL eB1 gB1) (own_ixL eB2 gB2) Hn123) rfl rfl e129 (by decide) (by decide) (g := (mkF m 417 #[.val (.long la), .second, .val (.long lb), .second, .val (.long lc), .second, .val (.int mm), .val (.long u0), .second, .val (.long f0), .second, .val (.long u1), .second, .val (.long f1), .second, .val (.long u2), .second, .val (.long f2), .second, .val (.ref (ad 0)), .val (.ref b28), .val (.ref b53), .val (.int (1 : Int32)), .val (.int (0 : Int32)), .val (.int (1 : Int32)), .val (.int (2 : Int32)), .val (.int (2 : Int32)), .unset, .unset] [(.ref (ad 0))])) rfl (by rw [hml]; rfl) (argsL := []) (rest := []) (lenOf own_pd7 rfl) rfl (Nat.le_of_eq rfl) (hb hby at_417) rfl (by decide) (by decide)
      obtain ⟨rfl, Hn130, Kn130, Nn130⟩ := hQ131
      refine Gd.go (fun _ w_k => st131 _ w_k) ?_
      show Gd _ _ _ _ (T131.setTop (mkF m 420 #[.val (.long la), .second, .val (.long lb), .second, .val (.long lc), .second, .val (.int mm), .val (.long u0), .second, .val (.long f0), .second, .val (.long u1), .second, .val (.long f1), .second, .val (.long u2), .second, .val (.long f2), .second, .val (.ref (ad 0)), .val (.ref b28), .val (.ref b53), .val (.int (1 : Int32)), .val (.int (0 : Int32)), .val (.int (1 : Int32)), .val (.int (2 : Int32)), .val (.int (2 : Int32)), .unset, .unset] []))
      have xN132 := Fr.app xN125 Nn130
      have xF133 := xF126.keep Kn130 (ninS (Ne.symm (lt_q 0 (by decide))) nin0)
      have xF134 := xF127.keep Kn130 (ninS (Ne.symm (lt_bp 0 (by decide))) nin0)
      refine Gd.go (fun _ w_k => XS.iload X131.here hx rfl (hb hby at_420) rfl (XS.iconst X131.here hx rfl (hb hby at_422) (XS.icmpYes X131.here hx rfl (pc0 := 423) (pc' := 435) rfl (hb hby at_423) rfl (feq (by decide)).2 (by decide) (by decide) w_k))) ?_
      show Gd _ _ _ _ (T131.setTop (mkF m 435 #[.val (.long la), .second, .val (.long lb), .second, .val (.long lc), .second, .val (.int mm), .val (.long u0), .second, .val (.long f0), .second, .val (.long u1), .second, .val (.long f1), .second, .val (.long u2), .second, .val (.long f2), .second, .val (.ref (ad 0)), .val (.ref b28), .val (.ref b53), .val (.int (1 : Int32)), .val (.int (0 : Int32)), .val (.int (1 : Int32)), .val (.int (2 : Int32)), .val (.int (2 : Int32)), .unset, .unset] []))
      refine Gd.go (fun _ w_k => XS.iconst X131.here hx rfl (hb hby at_435) (XS.istore X131.here hx rfl (hb hby at_436) rfl (l' := #[.val (.long la), .second, .val (.long lb), .second, .val (.long lc), .second, .val (.int mm), .val (.long u0), .second, .val (.long f0), .second, .val (.long u1), .second, .val (.long f1), .second, .val (.long u2), .second, .val (.long f2), .second, .val (.ref (ad 0)), .val (.ref b28), .val (.ref b53), .val (.int (1 : Int32)), .val (.int (0 : Int32)), .val (.int (1 : Int32)), .val (.int (2 : Int32)), .val (.int (2 : Int32)), .val (.int (3 : Int32)), .unset]) rfl (XS.aload X131.here hx rfl (hb hby at_438) rfl rfl w_k))) ?_
      show Gd _ _ _ _ (T131.setTop (mkF m 440 #[.val (.long la), .second, .val (.long lb), .second, .val (.long lc), .second, .val (.int mm), .val (.long u0), .second, .val (.long f0), .second, .val (.long u1), .second, .val (.long f1), .second, .val (.long u2), .second, .val (.long f2), .second, .val (.ref (ad 0)), .val (.ref b28), .val (.ref b53), .val (.int (1 : Int32)), .val (.int (0 : Int32)), .val (.int (1 : Int32)), .val (.int (2 : Int32)), .val (.int (2 : Int32)), .val (.int (3 : Int32)), .unset] [(.ref (ad 0))]))
      obtain ⟨T135, X135, e135, st135⟩ := own_callVP X131 hx hZ (C := "com/example/nearfield/nearfield/job/RankedReads") (y := (⟨"com/example/nearfield/nearfield/job/RankedReads", "index", "()I"⟩ : MethodName)) hown (ow hw 140 rfl) (ow hw 141 rfl) (ow hw 143 rfl) (ow hw 142 rfl) (ow hw 4 rfl) (ow hw 144 rfl) (by decide) Hn130.2.2.1 (W := 0) (own_c23 l Z a0 hw T131.heap n0 ad (ad 2) (ad 1) (0 : Int32) (3 : Int32) (3 : Int32) an_2 (3 : Int32) sc (0 : Int32) (3 : Int32) (0 : Int32) (0 : Int64) (0 : Int64) (0 : Int64) sa sb sc sa sb sc (0 : Int32) (0 : Int32) (0 : Int32) (0 : Int32) (0 : Int32) (0 : Int32) (0 : Int32) (0 : Int32) (0 : Int32) (own_mk mm (1 : Int32)) (own_mk mm (2 : Int32)) (own_mk mm (4 : Int32)) Hn130) rfl rfl rfl (by decide) (by decide) (g := (mkF m 440 #[.val (.long la), .second, .val (.long lb), .second, .val (.long lc), .second, .val (.int mm), .val (.long u0), .second, .val (.long f0), .second, .val (.long u1), .second, .val (.long f1), .second, .val (.long u2), .second, .val (.long f2), .second, .val (.ref (ad 0)), .val (.ref b28), .val (.ref b53), .val (.int (1 : Int32)), .val (.int (0 : Int32)), .val (.int (1 : Int32)), .val (.int (2 : Int32)), .val (.int (2 : Int32)), .val (.int (3 : Int32)), .unset] [(.ref (ad 0))])) rfl (by rw [hml]; rfl) (argsL := []) (rest := []) (lenOf own_pd13 rfl) rfl (Nat.le_of_eq rfl) (hb hby at_440) rfl
      refine Gd.go (fun _ w_k => st135 _ (XS.istore X135.here hx rfl (hb hby at_443) rfl (l' := #[.val (.long la), .second, .val (.long lb), .second, .val (.long lc), .second, .val (.int mm), .val (.long u0), .second, .val (.long f0), .second, .val (.long u1), .second, .val (.long f1), .second, .val (.long u2), .second, .val (.long f2), .second, .val (.ref (ad 0)), .val (.ref b28), .val (.ref b53), .val (.int (1 : Int32)), .val (.int (0 : Int32)), .val (.int (1 : Int32)), .val (.int (2 : Int32)), .val (.int (2 : Int32)), .val (.int (3 : Int32)), .val (.int (3 : Int32))]) rfl (XS.iload X135.here hx rfl (hb hby at_445) rfl (XS.ifNo X135.here hx rfl (hb hby at_447) rfl ((if0 _ _).trans (feq (by decide)).1) w_k)))) ?_
      show Gd _ _ _ _ (T135.setTop (mkF m 450 #[.val (.long la), .second, .val (.long lb), .second, .val (.long lc), .second, .val (.int mm), .val (.long u0), .second, .val (.long f0), .second, .val (.long u1), .second, .val (.long f1), .second, .val (.long u2), .second, .val (.long f2), .second, .val (.ref (ad 0)), .val (.ref b28), .val (.ref b53), .val (.int (1 : Int32)), .val (.int (0 : Int32)), .val (.int (1 : Int32)), .val (.int (2 : Int32)), .val (.int (2 : Int32)), .val (.int (3 : Int32)), .val (.int (3 : Int32))] []))
      refine Gd.go (fun _ w_k => XS.iload X135.here hx rfl (hb hby at_450) rfl (XS.iload X135.here hx rfl (hb hby at_452) rfl (XS.icmpNo X135.here hx rfl (hb hby at_454) rfl (teq (by decide)).2 w_k))) ?_
      show Gd _ _ _ _ (T135.setTop (mkF m 457 #[.val (.long la), .second, .val (.long lb), .second, .val (.long lc), .second, .val (.int mm), .val (.long u0), .second, .val (.long f0), .second, .val (.long u1), .second, .val (.long f1), .second, .val (.long u2), .second, .val (.long f2), .second, .val (.ref (ad 0)), .val (.ref b28), .val (.ref b53), .val (.int (1 : Int32)), .val (.int (0 : Int32)), .val (.int (1 : Int32)), .val (.int (2 : Int32)), .val (.int (2 : Int32)), .val (.int (3 : Int32)), .val (.int (3 : Int32))] []))
      refine Gd.go (fun _ w_k => XS.iconst X135.here hx rfl (hb hby at_457) (XS.goto X135.here hx rfl (pc0 := 458) (pc' := 462) rfl (hb hby at_458) (by decide) (by decide) (XS.istore X135.here hx rfl (hb hby at_462) rfl (l' := #[.val (.long la), .second, .val (.long lb), .second, .val (.long lc), .second, .val (.int mm), .val (.long u0), .second, .val (.long f0), .second, .val (.long u1), .second, .val (.long f1), .second, .val (.long u2), .second, .val (.long f2), .second, .val (.ref (ad 0)), .val (.ref b28), .val (.ref b53), .val (.int (1 : Int32)), .val (.int (0 : Int32)), .val (.int (1 : Int32)), .val (.int (2 : Int32)), .val (.int (2 : Int32)), .val (.int (3 : Int32)), .val (.int (3 : Int32))]) rfl (XS.iload X135.here hx rfl (hb hby at_464) rfl (XS.iconst X135.here hx rfl (hb hby at_466) (XS.icmpYes X135.here hx rfl (pc0 := 467) (pc' := 498) rfl (hb hby at_467) rfl (teq (by decide)).1 (by decide) (by decide) w_k)))))) ?_
      show Gd _ _ _ _ (T135.setTop (mkF m 498 #[.val (.long la), .second, .val (.long lb), .second, .val (.long lc), .second, .val (.int mm), .val (.long u0), .second, .val (.long f0), .second, .val (.long u1), .second, .val (.long f1), .second, .val (.long u2), .second, .val (.long f2), .second, .val (.ref (ad 0)), .val (.ref b28), .val (.ref b53), .val (.int (1 : Int32)), .val (.int (0 : Int32)), .val (.int (1 : Int32)), .val (.int (2 : Int32)), .val (.int (2 : Int32)), .val (.int (3 : Int32)), .val (.int (3 : Int32))] []))
      refine Gd.go (fun _ w_k => XS.iload X135.here hx rfl (hb hby at_498) rfl w_k) ?_
      show Gd _ _ _ _ (T135.setTop (mkF m 500 #[.val (.long la), .second, .val (.long lb), .second, .val (.long lc), .second, .val (.int mm), .val (.long u0), .second, .val (.long f0), .second, .val (.long u1), .second, .val (.long f1), .second, .val (.long u2), .second, .val (.long f2), .second, .val (.ref (ad 0)), .val (.ref b28), .val (.ref b53), .val (.int (1 : Int32)), .val (.int (0 : Int32)), .val (.int (1 : Int32)), .val (.int (2 : Int32)), .val (.int (2 : Int32)), .val (.int (3 : Int32)), .val (.int (3 : Int32))] [(.int (1 : Int32))]))
      refine own_retN (t := .boolean) X135 hx hret hlk (by simp) (hb hby at_500) ?_ (by decide) (by decide)
      exact ⟨rfl, xN132⟩
    · have v2 : ¬ (own_k (own_mk mm (1 : Int32)) (own_mk mm (2 : Int32)) (own_mk mm (4 : Int32)) B2) = (0 : Int32) := by rw [← eB2]; exact w2
      refine Gd.go (fun _ w_k => XS.iload X_2.here hx rfl (hb hby at_271) rfl (XS.aload X_2.here hx rfl (hb hby at_273) rfl rfl (XS.iconst X_2.here hx rfl (hb hby at_275) (own_ldI X_2 hx hZ rfl P_2 (j := (1 : Int32)) (by decide) (by decide) (v := (.int B1)) rfl (g := (mkF m 276 #[.val (.long la), .second, .val (.long lb), .second, .val (.long lc), .second, .val (.int mm), .val (.long u0), .second, .val (.long f0), .second, .val (.long u1), .second, .val (.long f1), .second, .val (.long u2), .second, .val (.long f2), .second, .val (.ref (ad 0)), .val (.ref b28), .val (.ref b53), .val (.int (1 : Int32)), .unset, .unset, .unset, .unset, .unset, .unset] [(.int (1 : Int32)), (.ref b53), (.int mm)])) rfl rfl (hb hby at_276) _ (XS.ishr X_2.here hx rfl (hb hby at_277) rfl (XS.iconst X_2.here hx rfl (hb hby at_278) (XS.iand X_2.here hx rfl (hb hby at_279) rfl (XS.ifYes X_2.here hx rfl (pc0 := 280) (pc' := 287) rfl (hb hby at_280) rfl ((if0 _ _).trans (feq (fun q => v1 ((own_bitk mm gB1).mp q))).2) (by decide) (by decide) w_k)))))))) ?_
      show Gd _ _ _ _ (T_2.setTop (mkF m 287 #[.val (.long la), .second, .val (.long lb), .second, .val (.long lc), .second, .val (.int mm), .val (.long u0), .second, .val (.long f0), .second, .val (.long u1), .second, .val (.long f1), .second, .val (.long u2), .second, .val (.long f2), .second, .val (.ref (ad 0)), .val (.ref b28), .val (.ref b53), .val (.int (1 : Int32)), .unset, .unset, .unset, .unset, .unset, .unset] []))
      refine Gd.go (fun _ w_k => XS.iconst X_2.here hx rfl (hb hby at_287) (XS.istore X_2.here hx rfl (hb hby at_288) rfl (l' := #[.val (.long la), .second, .val (.long lb), .second, .val (.long lc), .second, .val (.int mm), .val (.long u0), .second, .val (.long f0), .second, .val (.long u1), .second, .val (.long f1), .second, .val (.long u2), .second, .val (.long f2), .second, .val (.ref (ad 0)), .val (.ref b28), .val (.ref b53), .val (.int (1 : Int32)), .val (.int (0 : Int32)), .unset, .unset, .unset, .unset, .unset]) rfl (XS.iload X_2.here hx rfl (hb hby at_290) rfl (XS.aload X_2.here hx rfl (hb hby at_292) rfl rfl (XS.iconst X_2.here hx rfl (hb hby at_294) (own_ldI X_2 hx hZ rfl P_2 (j := (2 : Int32)) (by decide) (by decide) (v := (.int B2)) rfl (g := (mkF m 295 #[.val (.long la), .second, .val (.long lb), .second, .val (.long lc), .second, .val (.int mm), .val (.long u0), .second, .val (.long f0), .second, .val (.long u1), .second, .val (.long f1), .second, .val (.long u2), .second, .val (.long f2), .second, .val (.ref (ad 0)), .val (.ref b28), .val (.ref b53), .val (.int (1 : Int32)), .val (.int (0 : Int32)), .unset, .unset, .unset, .unset, .unset] [(.int (2 : Int32)), (.ref b53), (.int mm)])) rfl rfl (hb hby at_295) _ (XS.ishr X_2.here hx rfl (hb hby at_296) rfl (XS.iconst X_2.here hx rfl (hb hby at_297) (XS.iand X_2.here hx rfl (hb hby at_298) rfl (XS.ifYes X_2.here hx rfl (pc0 := 299) (pc' := 306) rfl (hb hby at_299) rfl ((if0 _ _).trans (feq (fun q => v2 ((own_bitk mm gB2).mp q))).2) (by decide) (by decide) w_k)))))))))) ?_
      show Gd _ _ _ _ (T_2.setTop (mkF m 306 #[.val (.long la), .second, .val (.long lb), .second, .val (.long lc), .second, .val (.int mm), .val (.long u0), .second, .val (.long f0), .second, .val (.long u1), .second, .val (.long f1), .second, .val (.long u2), .second, .val (.long f2), .second, .val (.ref (ad 0)), .val (.ref b28), .val (.ref b53), .val (.int (1 : Int32)), .val (.int (0 : Int32)), .unset, .unset, .unset, .unset, .unset] []))
      refine Gd.go (fun _ w_k => XS.iconst X_2.here hx rfl (hb hby at_306) (XS.istore X_2.here hx rfl (hb hby at_307) rfl (l' := #[.val (.long la), .second, .val (.long lb), .second, .val (.long lc), .second, .val (.int mm), .val (.long u0), .second, .val (.long f0), .second, .val (.long u1), .second, .val (.long f1), .second, .val (.long u2), .second, .val (.long f2), .second, .val (.ref (ad 0)), .val (.ref b28), .val (.ref b53), .val (.int (1 : Int32)), .val (.int (0 : Int32)), .val (.int (0 : Int32)), .unset, .unset, .unset, .unset]) rfl (XS.aload X_2.here hx rfl (hb hby at_309) rfl rfl w_k))) ?_
      show Gd _ _ _ _ (T_2.setTop (mkF m 311 #[.val (.long la), .second, .val (.long lb), .second, .val (.long lc), .second, .val (.int mm), .val (.long u0), .second, .val (.long f0), .second, .val (.long u1), .second, .val (.long f1), .second, .val (.long u2), .second, .val (.long f2), .second, .val (.ref (ad 0)), .val (.ref b28), .val (.ref b53), .val (.int (1 : Int32)), .val (.int (0 : Int32)), .val (.int (0 : Int32)), .unset, .unset, .unset, .unset] [(.ref (ad 0))]))
      obtain ⟨v137, T137, L137, X137, hQ137, st137⟩ := own_callV X_2 hx hZ (C := "com/example/nearfield/nearfield/job/RankedReads") (y := (⟨"com/example/nearfield/nearfield/job/RankedReads", "next", "()V"⟩ : MethodName)) hown (ow hw 155 rfl) (ow hw 127 rfl) (ow hw 129 rfl) (ow hw 128 rfl) (ow hw 4 rfl) (ow hw 130 rfl) (by decide) H_2.2.2.1 (W := 0) (own_c20_0 l Z a0 hw T_2.heap n0 ad (ad 1) (0 : Int32) (3 : Int32) (3 : Int32) an_2 sa (0 : Int32) (0 : Int32) (0 : Int64) (0 : Int64) (0 : Int64) sa sb sc sa sb sc (0 : Int32) (0 : Int32) (0 : Int32) (0 : Int32) (0 : Int32) (0 : Int32) (own_mk mm (1 : Int32)) (own_mk mm (2 : Int32)) (own_mk mm (4 : Int32)) (own_ixL eB0 gB0) (own_ixL eB1 gB1) (own_ixL eB2 gB2) H_2) rfl rfl rfl (by decide) (by decide) (g := (mkF m 311 #[.val (.long la), .second, .val (.long lb), .second, .val (.long lc), .second, .val (.int mm), .val (.long u0), .second, .val (.long f0), .second, .val (.long u1), .second, .val (.long f1), .second, .val (.long u2), .second, .val (.long f2), .second, .val (.ref (ad 0)), .val (.ref b28), .val (.ref b53), .val (.int (1 : Int32)), .val (.int (0 : Int32)), .val (.int (0 : Int32)), .unset, .unset, .unset, .unset] [(.ref (ad 0))])) rfl (by rw [hml]; rfl) (argsL := []) (rest := []) (lenOf own_pd7 rfl) rfl (Nat.le_of_eq rfl) (hb hby at_311) rfl (by decide) (by decide)
      obtain ⟨rfl, Hn136, Kn136, Nn136⟩ := hQ137
      refine Gd.go (fun _ w_k => st137 _ w_k) ?_
      show Gd _ _ _ _ (T137.setTop (mkF m 314 #[.val (.long la), .second, .val (.long lb), .second, .val (.long lc), .second, .val (.int mm), .val (.long u0), .second, .val (.long f0), .second, .val (.long u1), .second, .val (.long f1), .second, .val (.long u2), .second, .val (.long f2), .second, .val (.ref (ad 0)), .val (.ref b28), .val (.ref b53), .val (.int (1 : Int32)), .val (.int (0 : Int32)), .val (.int (0 : Int32)), .unset, .unset, .unset, .unset] []))
      have xN138 := Fr.app N_2 Nn136
      have xF139 := Q_2.keep Kn136 (ninS (Ne.symm (lt_q 0 (by decide))) nin0)
      have xF140 := P_2.keep Kn136 (ninS (Ne.symm (lt_bp 0 (by decide))) nin0)
      rw [if_neg w1, if_neg w1, if_neg w2, if_neg w2] at Hn136
      refine Gd.go (fun _ w_k => XS.iload X137.here hx rfl (hb hby at_314) rfl (XS.ifYes X137.here hx rfl (pc0 := 316) (pc' := 323) rfl (hb hby at_316) rfl ((if0 _ _).trans (teq (by decide)).1) (by decide) (by decide) w_k)) ?_
      show Gd _ _ _ _ (T137.setTop (mkF m 323 #[.val (.long la), .second, .val (.long lb), .second, .val (.long lc), .second, .val (.int mm), .val (.long u0), .second, .val (.long f0), .second, .val (.long u1), .second, .val (.long f1), .second, .val (.long u2), .second, .val (.long f2), .second, .val (.ref (ad 0)), .val (.ref b28), .val (.ref b53), .val (.int (1 : Int32)), .val (.int (0 : Int32)), .val (.int (0 : Int32)), .unset, .unset, .unset, .unset] []))
      refine Gd.go (fun _ w_k => XS.iload X137.here hx rfl (hb hby at_323) rfl (XS.ifYes X137.here hx rfl (pc0 := 325) (pc' := 332) rfl (hb hby at_325) rfl ((if0 _ _).trans (teq (by decide)).1) (by decide) (by decide) w_k)) ?_
      show Gd _ _ _ _ (T137.setTop (mkF m 332 #[.val (.long la), .second, .val (.long lb), .second, .val (.long lc), .second, .val (.int mm), .val (.long u0), .second, .val (.long f0), .second, .val (.long u1), .second, .val (.long f1), .second, .val (.long u2), .second, .val (.long f2), .second, .val (.ref (ad 0)), .val (.ref b28), .val (.ref b53), .val (.int (1 : Int32)), .val (.int (0 : Int32)), .val (.int (0 : Int32)), .unset, .unset, .unset, .unset] []))
      refine Gd.go (fun _ w_k => XS.iconst X137.here hx rfl (hb hby at_332) (XS.istore X137.here hx rfl (hb hby at_333) rfl (l' := #[.val (.long la), .second, .val (.long lb), .second, .val (.long lc), .second, .val (.int mm), .val (.long u0), .second, .val (.long f0), .second, .val (.long u1), .second, .val (.long f1), .second, .val (.long u2), .second, .val (.long f2), .second, .val (.ref (ad 0)), .val (.ref b28), .val (.ref b53), .val (.int (1 : Int32)), .val (.int (0 : Int32)), .val (.int (0 : Int32)), .val (.int (3 : Int32)), .unset, .unset, .unset]) rfl (XS.aload X137.here hx rfl (hb hby at_335) rfl rfl w_k))) ?_
      show Gd _ _ _ _ (T137.setTop (mkF m 337 #[.val (.long la), .second, .val (.long lb), .second, .val (.long lc), .second, .val (.int mm), .val (.long u0), .second, .val (.long f0), .second, .val (.long u1), .second, .val (.long f1), .second, .val (.long u2), .second, .val (.long f2), .second, .val (.ref (ad 0)), .val (.ref b28), .val (.ref b53), .val (.int (1 : Int32)), .val (.int (0 : Int32)), .val (.int (0 : Int32)), .val (.int (3 : Int32)), .unset, .unset, .unset] [(.ref (ad 0))]))
      obtain ⟨T141, X141, e141, st141⟩ := own_callVP X137 hx hZ (C := "com/example/nearfield/nearfield/job/RankedReads") (y := (⟨"com/example/nearfield/nearfield/job/RankedReads", "index", "()I"⟩ : MethodName)) hown (ow hw 140 rfl) (ow hw 141 rfl) (ow hw 143 rfl) (ow hw 142 rfl) (ow hw 4 rfl) (ow hw 144 rfl) (by decide) Hn136.2.2.1 (W := 0) (own_c23 l Z a0 hw T137.heap n0 ad (ad 2) (ad 1) (0 : Int32) (3 : Int32) (3 : Int32) an_2 (3 : Int32) sa (0 : Int32) (3 : Int32) (0 : Int32) (0 : Int64) (0 : Int64) (0 : Int64) sa sb sc sa sb sc (0 : Int32) (0 : Int32) (0 : Int32) (0 : Int32) (0 : Int32) (0 : Int32) (0 : Int32) (0 : Int32) (0 : Int32) (own_mk mm (1 : Int32)) (own_mk mm (2 : Int32)) (own_mk mm (4 : Int32)) Hn136) rfl rfl rfl (by decide) (by decide) (g := (mkF m 337 #[.val (.long la), .second, .val (.long lb), .second, .val (.long lc), .second, .val (.int mm), .val (.long u0), .second, .val (.long f0), .second, .val (.long u1), .second, .val (.long f1), .second, .val (.long u2), .second, .val (.long f2), .second, .val (.ref (ad 0)), .val (.ref b28), .val (.ref b53), .val (.int (1 : Int32)), .val (.int (0 : Int32)), .val (.int (0 : Int32)), .val (.int (3 : Int32)), .unset, .unset, .unset] [(.ref (ad 0))])) rfl (by rw [hml]; rfl) (argsL := []) (rest := []) (lenOf own_pd13 rfl) rfl (Nat.le_of_eq rfl) (hb hby at_337) rfl
      refine Gd.go (fun _ w_k => st141 _ (XS.istore X141.here hx rfl (hb hby at_340) rfl (l' := #[.val (.long la), .second, .val (.long lb), .second, .val (.long lc), .second, .val (.int mm), .val (.long u0), .second, .val (.long f0), .second, .val (.long u1), .second, .val (.long f1), .second, .val (.long u2), .second, .val (.long f2), .second, .val (.ref (ad 0)), .val (.ref b28), .val (.ref b53), .val (.int (1 : Int32)), .val (.int (0 : Int32)), .val (.int (0 : Int32)), .val (.int (3 : Int32)), .val (.int (3 : Int32)), .unset, .unset]) rfl (XS.iload X141.here hx rfl (hb hby at_342) rfl (XS.ifNo X141.here hx rfl (hb hby at_344) rfl ((if0 _ _).trans (feq (by decide)).1) w_k)))) ?_
      show Gd _ _ _ _ (T141.setTop (mkF m 347 #[.val (.long la), .second, .val (.long lb), .second, .val (.long lc), .second, .val (.int mm), .val (.long u0), .second, .val (.long f0), .second, .val (.long u1), .second, .val (.long f1), .second, .val (.long u2), .second, .val (.long f2), .second, .val (.ref (ad 0)), .val (.ref b28), .val (.ref b53), .val (.int (1 : Int32)), .val (.int (0 : Int32)), .val (.int (0 : Int32)), .val (.int (3 : Int32)), .val (.int (3 : Int32)), .unset, .unset] []))
      refine Gd.go (fun _ w_k => XS.iload X141.here hx rfl (hb hby at_347) rfl (XS.iload X141.here hx rfl (hb hby at_349) rfl (XS.icmpNo X141.here hx rfl (hb hby at_351) rfl (teq (by decide)).2 w_k))) ?_
      show Gd _ _ _ _ (T141.setTop (mkF m 354 #[.val (.long la), .second, .val (.long lb), .second, .val (.long lc), .second, .val (.int mm), .val (.long u0), .second, .val (.long f0), .second, .val (.long u1), .second, .val (.long f1), .second, .val (.long u2), .second, .val (.long f2), .second, .val (.ref (ad 0)), .val (.ref b28), .val (.ref b53), .val (.int (1 : Int32)), .val (.int (0 : Int32)), .val (.int (0 : Int32)), .val (.int (3 : Int32)), .val (.int (3 : Int32)), .unset, .unset] []))
      refine Gd.go (fun _ w_k => XS.iconst X141.here hx rfl (hb hby at_354) (XS.goto X141.here hx rfl (pc0 := 355) (pc' := 359) rfl (hb hby at_355) (by decide) (by decide) (XS.istore X141.here hx rfl (hb hby at_359) rfl (l' := #[.val (.long la), .second, .val (.long lb), .second, .val (.long lc), .second, .val (.int mm), .val (.long u0), .second, .val (.long f0), .second, .val (.long u1), .second, .val (.long f1), .second, .val (.long u2), .second, .val (.long f2), .second, .val (.ref (ad 0)), .val (.ref b28), .val (.ref b53), .val (.int (1 : Int32)), .val (.int (0 : Int32)), .val (.int (0 : Int32)), .val (.int (3 : Int32)), .val (.int (3 : Int32)), .unset, .unset]) rfl (XS.iload X141.here hx rfl (hb hby at_361) rfl (XS.iconst X141.here hx rfl (hb hby at_363) (XS.icmpNo X141.here hx rfl (hb hby at_364) rfl (teq (by decide)).2 w_k)))))) ?_
      show Gd _ _ _ _ (T141.setTop (mkF m 367 #[.val (.long la), .second, .val (.long lb), .second, .val (.long lc), .second, .val (.int mm), .val (.long u0), .second, .val (.long f0), .second, .val (.long u1), .second, .val (.long f1), .second, .val (.long u2), .second, .val (.long f2), .second, .val (.ref (ad 0)), .val (.ref b28), .val (.ref b53), .val (.int (1 : Int32)), .val (.int (0 : Int32)), .val (.int (0 : Int32)), .val (.int (3 : Int32)), .val (.int (3 : Int32)), .unset, .unset] []))
      refine Gd.go (fun _ w_k => XS.iload X141.here hx rfl (hb hby at_367) rfl (XS.ifNo X141.here hx rfl (hb hby at_369) rfl ((if0 _ _).trans (feq (by decide)).1) w_k)) ?_
      show Gd _ _ _ _ (T141.setTop (mkF m 372 #[.val (.long la), .second, .val (.long lb), .second, .val (.long lc), .second, .val (.int mm), .val (.long u0), .second, .val (.long f0), .second, .val (.long u1), .second, .val (.long f1), .second, .val (.long u2), .second, .val (.long f2), .second, .val (.ref (ad 0)), .val (.ref b28), .val (.ref b53), .val (.int (1 : Int32)), .val (.int (0 : Int32)), .val (.int (0 : Int32)), .val (.int (3 : Int32)), .val (.int (3 : Int32)), .unset, .unset] []))
      refine Gd.go (fun _ w_k => XS.aload X141.here hx rfl (hb hby at_372) rfl rfl w_k) ?_
      show Gd _ _ _ _ (T141.setTop (mkF m 374 #[.val (.long la), .second, .val (.long lb), .second, .val (.long lc), .second, .val (.int mm), .val (.long u0), .second, .val (.long f0), .second, .val (.long u1), .second, .val (.long f1), .second, .val (.long u2), .second, .val (.long f2), .second, .val (.ref (ad 0)), .val (.ref b28), .val (.ref b53), .val (.int (1 : Int32)), .val (.int (0 : Int32)), .val (.int (0 : Int32)), .val (.int (3 : Int32)), .val (.int (3 : Int32)), .unset, .unset] [(.ref (ad 0))]))
      obtain ⟨T142, X142, e142, st142⟩ := own_callVP X141 hx hZ (C := "com/example/nearfield/nearfield/job/RankedReads") (y := (⟨"com/example/nearfield/nearfield/job/RankedReads", "passedAll", "()Z"⟩ : MethodName)) hown (ow hw 156 rfl) (ow hw 157 rfl) (ow hw 159 rfl) (ow hw 158 rfl) (ow hw 4 rfl) (ow hw 160 rfl) (by decide) Hn136.2.2.1 (W := 0) (own_c26 l Z a0 hw T137.heap n0 ad (ad 1) (0 : Int32) (3 : Int32) (3 : Int32) an_2 sa (0 : Int32) (0 : Int32) (0 : Int64) (0 : Int64) (0 : Int64) sa sb sc sa sb sc (0 : Int32) (0 : Int32) (0 : Int32) (0 : Int32) (0 : Int32) (0 : Int32) (0 : Int32) (0 : Int32) (0 : Int32) (own_mk mm (1 : Int32)) (own_mk mm (2 : Int32)) (own_mk mm (4 : Int32)) Hn136) rfl rfl e141 (by decide) (by decide) (g := (mkF m 374 #[.val (.long la), .second, .val (.long lb), .second, .val (.long lc), .second, .val (.int mm), .val (.long u0), .second, .val (.long f0), .second, .val (.long u1), .second, .val (.long f1), .second, .val (.long u2), .second, .val (.long f2), .second, .val (.ref (ad 0)), .val (.ref b28), .val (.ref b53), .val (.int (1 : Int32)), .val (.int (0 : Int32)), .val (.int (0 : Int32)), .val (.int (3 : Int32)), .val (.int (3 : Int32)), .unset, .unset] [(.ref (ad 0))])) rfl (by rw [hml]; rfl) (argsL := []) (rest := []) (lenOf own_pd15 rfl) rfl (Nat.le_of_eq rfl) (hb hby at_374) rfl
      refine Gd.go (fun _ w_k => st142 _ (XS.ifNo X142.here hx rfl (hb hby at_377) rfl ((if0 _ _).trans (feq (by decide)).1) w_k)) ?_
      show Gd _ _ _ _ (T142.setTop (mkF m 380 #[.val (.long la), .second, .val (.long lb), .second, .val (.long lc), .second, .val (.int mm), .val (.long u0), .second, .val (.long f0), .second, .val (.long u1), .second, .val (.long f1), .second, .val (.long u2), .second, .val (.long f2), .second, .val (.ref (ad 0)), .val (.ref b28), .val (.ref b53), .val (.int (1 : Int32)), .val (.int (0 : Int32)), .val (.int (0 : Int32)), .val (.int (3 : Int32)), .val (.int (3 : Int32)), .unset, .unset] []))
      refine Gd.go (fun _ w_k => XS.iconst X142.here hx rfl (hb hby at_380) (XS.goto X142.here hx rfl (pc0 := 381) (pc' := 385) rfl (hb hby at_381) (by decide) (by decide) w_k)) ?_
      show Gd _ _ _ _ (T142.setTop (mkF m 385 #[.val (.long la), .second, .val (.long lb), .second, .val (.long lc), .second, .val (.int mm), .val (.long u0), .second, .val (.long f0), .second, .val (.long u1), .second, .val (.long f1), .second, .val (.long u2), .second, .val (.long f2), .second, .val (.ref (ad 0)), .val (.ref b28), .val (.ref b53), .val (.int (1 : Int32)), .val (.int (0 : Int32)), .val (.int (0 : Int32)), .val (.int (3 : Int32)), .val (.int (3 : Int32)), .unset, .unset] [(.int (1 : Int32))]))
      refine own_retN (t := .boolean) X142 hx hret hlk (by simp) (hb hby at_385) ?_ (by decide) (by decide)
      exact ⟨rfl, xN138⟩
set_option maxRecDepth 65536 in
set_option maxHeartbeats 40000000 in
theorem comes_1 {Post : Tables → Env → Array Value → State → Outcome → State → Prop} (hpost : ∀ tb e args s v u, (limb_1_1.after args s (.returned v) u = true ∧ limb_1_2.after args s (.returned v) u = true ∧ True) → FrameEnd s (.returned v) u (Jvm.fieldLocs frame_1_writes args s ++ Jvm.arrayLocs frame_1_arrays args s ++ Jvm.staticLocs frame_1_statics s) 40 384 → Post tb e args s (.returned v) u) :
    ArmFor flags0 classFile x code maxLocals ret World_1 tables_1 room_1 Calls_1 rest_1 Pre_1 Post := by
  intro l hfl _ _ p e ha hc hk s m args below hf hA hF happ hP
  obtain ⟨hcalls, hrest, hpre⟩ := hP
  obtain ⟨-, -, -, hnamed, -, -, -, hat⟩ := (Spec.applies_iff hf).mp happ
  obtain ⟨hg, hn⟩ := and_e (Cond.before_iff.mp (show (Jvm.Cond.and given_1 narrow_1).before args s = true from hpre))
  obtain ⟨h1, g0⟩ := and_e hg
  obtain ⟨k0, g1⟩ := and_e g0
  obtain ⟨k1, g2⟩ := and_e g1
  obtain ⟨k2, g3⟩ := and_e g2
  obtain ⟨w0, w1, w2, w3, rfl⟩ : ∃ w0 w1 w2 w3 : Value, args = #[w0, w1, w2, w3] := by
    have hs : args.size = 4 := by simpa [Cond.value, given_1] using h1
    obtain ⟨L⟩ := args
    match L, hs with
    | [w0, w1, w2, w3], _ => exact ⟨w0, w1, w2, w3, rfl⟩
  have hw := fun d (hd : d ∈ tables_1) => atoms_spec (ws := Jvm.Cond.code x code maxLocals ret :: tables_1) hat d (List.mem_cons_of_mem _ hd)
  have hfit : Fit s := fun {y c} hc i hi => by
    obtain ⟨ha, rfl⟩ := Array.getElem?_eq_some_iff.mp hc
    have q := List.all_eq_true.mp ((Array.all_eq_true_iff_forall_mem.mp hF) _ (Array.getElem_mem ha)) i (List.mem_range.mpr hi)
    simpa [Array.getElem?_eq_getElem hi] using q
  obtain ⟨i0, e0⟩ := isL_v k0
  obtain rfl : w0 = (.long i0) := Option.some.inj e0
  obtain ⟨i1, e1⟩ := isL_v k1
  obtain rfl : w1 = (.long i1) := Option.some.inj e1
  obtain ⟨i2, e2⟩ := isL_v k2
  obtain rfl : w2 = (.long i2) := Option.some.inj e2
  obtain ⟨i3, e3⟩ := is_v g3
  obtain rfl : w3 = (.int i3) := Option.some.inj e3
  obtain ⟨n, o, h1, h2, h3, _, L, rfl, ⟨rfl, N⟩, hq⟩ := own_law l s _ hw i0 i1 i2 i3 s.heap s.heap.size (Nat.le_refl _) p e ha hc hk s m _ below hf ((Spec.applies_iff_loose hf).mp happ).1 ⟨rfl, State.Warmed39.refl s, rfl⟩ trivial
  refine ⟨n, _, h1, h2, h3, hpost _ _ _ _ _ _ ⟨Cond.after_iff.mpr rfl, Cond.after_iff.mpr (eq_i res_at (Term.int_eval (1)) rfl), trivial⟩ ⟨hq.1, hq.2.1, (hq.2.2.sift fun y hy => Or.inr (N y hy)).mono (by decide) (by decide)⟩⟩
theorem main_1_1 : Claimed_1_1 := comes_1 fun _ _ _ _ _ _ h hF => ⟨h.1, hF⟩
theorem main_1_2 : Claimed_1_2 := comes_1 fun _ _ _ _ _ _ h hF => ⟨h.2.1, hF⟩
end Jvm.Pilot.@@N@@
namespace Jvm.Pilot.@@N@@
open Jvm Jvm.ClassFile Sem Op Lib Jvm.Free Jvm.Stand Jvm.Pilot.@@N@@.Jvm.D
/-! MADE BY PROGRAM (witnessworld.py) out of the Statement's table words and the real class files: 20 classes; the members and pool entries that the words name. The judged class is class 1, her method 3. -/
namespace start1
open Jvm.ClassFile
def u (s : String) : CpInfo := .utf8 (stringToUtf16 s)
/-- a pool by its gaps: so many unusable entries, then the entry; so many at the end -/
def gap : Nat → List CpInfo → List CpInfo
  | 0, r => r
  | n + 1, r => .unusable :: gap n r
def poolList (es : List (Nat × CpInfo)) (last : Nat) : List CpInfo := es.foldr (fun e r => gap e.1 (e.2 :: r)) (gap last [])
def pool (es : List (Nat × CpInfo)) (last : Nat) : Array CpInfo := ⟨poolList es last⟩
def fileOf (pool : Array CpInfo) (this : Nat) (attrs : Array Attribute := #[]) (ms : Array MethodInfo := #[]) (fl : Nat := 33) (sup : Nat := 0) (ifs : Array Nat := #[]) (fds : Array FieldInfo := #[]) : ClassFile where
  minorVersion := 0
  majorVersion := 65
  constantPool := pool
  accessFlags := fl
  thisClass := this
  superClass := sup
  interfaces := ifs
  fields := fds
  methods := ms
  attributes := attrs
def plain (name : String) (sup : Option ClassId) : Class where
  name := name
  kind := .ordinary
  loader := none
  accessFlags := 33
  super := sup
  interfaces := #[]
  cf := none
  fields := #[]
  methods := #[]
  instanceTypes := #[]
  staticTypes := #[]
  resolved := #[]
  callSites := []
  init := .initialized
  statics := none
  mirror := none

def pool0 : Array CpInfo := pool [(5, u "<init>"), (0, u "()V"), (1, .class_ 10), (1, u "java/lang/Object")] 113

def k0c0 : Code := { maxStack := 0, maxLocals := 1, code := object_method_1_code, exceptionTable := #[], attributes := #[] }
def k0m0 : Method := { name := "<init>", desc := "()V", sig := { parameters := [], returnType := none }, accessFlags := 1, code := some k0c0 }
/-- java/lang/Object -/
def k0 : Class := { plain "java/lang/Object" none with
  accessFlags := 33
  interfaces := #[]
  cf := some (fileOf pool0 8 #[] #[{ accessFlags := 1, nameIndex := 5, descriptorIndex := 6, attributes := #[] }] 33 0 #[] #[])
  fields := #[]
  methods := #[k0m0]
  instanceTypes := #[]
  staticTypes := #[]
  resolved := Array.replicate 124 none
  statics := none }

def pool1 : Array CpInfo := pool [(2, .class_ 4), (1, u "java/lang/Object"), (0, u "<init>"), (0, u "()V"), (0, .long 1073741823), (1, .long 2147483647), (1, .class_ 12), (0, u "com/example/nearfield/nearfield/job/RankedReads"), (0, .methodref 11 14), (0, .nameAndType 5 15), (0, u "(I)V"), (0, .methodref 11 17), (0, .nameAndType 18 19), (0, u "rank"), (0, u "(JJI)V"), (0, .methodref 11 21), (0, .nameAndType 22 6), (0, u "order"), (0, .methodref 24 25), (0, .class_ 26), (0, .nameAndType 27 28), (0, u "com/example/nearfield/nearfield/job/RankedReadsNextPinLaw"), (0, u "pk"), (0, u "(JJI)J"), (0, .methodref 24 30), (0, .nameAndType 31 32), (0, u "pos"), (0, u "(JJJ)I"), (0, .methodref 11 34), (0, .nameAndType 35 36), (0, u "index"), (0, u "()I"), (0, .methodref 11 38), (0, .nameAndType 39 40), (0, u "packedNext"), (0, u "()J"), (0, .methodref 11 42), (0, .nameAndType 43 15), (0, u "rankAnew"), (0, .methodref 11 45), (0, .nameAndType 46 6), (0, u "next"), (0, .methodref 11 48), (0, .nameAndType 49 50), (0, u "passedAll"), (0, u "()Z"), (3, u "law"), (0, u "(JJJI)Z")] 6

def k1m0 : Method := { name := "<init>", desc := "()V", sig := { parameters := [], returnType := none }, accessFlags := 1, code := none }
def k1c1 : Code := { maxStack := 6, maxLocals := 5, code := method_2_code, exceptionTable := #[], attributes := #[] }
def k1m1 : Method := { name := "pk", desc := "(JJI)J", sig := { parameters := [.long, .long, .int], returnType := some .long }, accessFlags := 10, code := some k1c1 }
def k1c2 : Code := { maxStack := 4, maxLocals := 7, code := method_3_code, exceptionTable := #[], attributes := #[] }
def k1m2 : Method := { name := "pos", desc := "(JJJ)I", sig := { parameters := [.long, .long, .long], returnType := some .int }, accessFlags := 10, code := some k1c2 }
def k1c3 : Code := { maxStack := 7, maxLocals := 29, code := code, exceptionTable := #[], attributes := #[] }
def k1m3 : Method := { name := "law", desc := "(JJJI)Z", sig := { parameters := [.long, .long, .long, .int], returnType := some .boolean }, accessFlags := 9, code := some k1c3 }
/-- com/example/nearfield/nearfield/job/RankedReadsNextPinLaw -/
def k1 : Class := { plain "com/example/nearfield/nearfield/job/RankedReadsNextPinLaw" (some 0) with
  accessFlags := 49
  interfaces := #[]
  cf := some (fileOf pool1 24 #[] #[{ accessFlags := 1, nameIndex := 5, descriptorIndex := 6, attributes := #[] }, { accessFlags := 10, nameIndex := 27, descriptorIndex := 28, attributes := #[] }, { accessFlags := 10, nameIndex := 31, descriptorIndex := 32, attributes := #[] }, { accessFlags := 9, nameIndex := 54, descriptorIndex := 55, attributes := #[] }] 49 2 #[] #[])
  fields := #[]
  methods := #[k1m0, k1m1, k1m2, k1m3]
  instanceTypes := #[]
  staticTypes := #[]
  resolved := Array.replicate 62 none
  statics := none }

def pool2 : Array CpInfo := pool [(1, .methodref 2 3), (0, .class_ 4), (0, .nameAndType 5 6), (0, u "java/lang/Object"), (0, u "<init>"), (0, u "()V"), (0, .class_ 8), (0, u "com/example/nearfield/nearfield/job/RankedReads$Run"), (0, .methodref 7 3), (0, .fieldref 11 12), (0, .class_ 13), (0, .nameAndType 14 15), (0, u "com/example/nearfield/nearfield/job/RankedReads"), (0, u "run"), (0, u "Lcom/example/nearfield/nearfield/job/RankedReads$Run;"), (0, .fieldref 11 17), (0, .nameAndType 18 15), (0, u "merged"), (0, .fieldref 11 20), (0, .nameAndType 21 15), (0, u "fresh"), (0, .methodref 23 24), (0, .class_ 25), (0, .nameAndType 26 27), (0, u "java/lang/Math"), (0, u "max"), (0, u "(II)I"), (0, .methodref 29 30), (0, .class_ 31), (0, .nameAndType 32 33), (0, u "java/lang/Integer"), (0, u "numberOfLeadingZeros"), (0, u "(I)I"), (0, .fieldref 11 35), (0, .nameAndType 36 37), (0, u "serverBits"), (0, u "I"), (2, .fieldref 11 41), (0, .nameAndType 42 37), (0, u "freeBits"), (0, .fieldref 11 44), (0, .nameAndType 45 46), (0, u "serverMask"), (0, u "J"), (0, .fieldref 11 48), (0, .nameAndType 49 46), (0, u "mostFree"), (0, .fieldref 11 51), (0, .nameAndType 52 46), (0, u "mostSpend"), (0, .fieldref 11 54), (0, .nameAndType 55 56), (0, u "ranking"), (0, u "[I"), (0, .fieldref 11 58), (0, .nameAndType 59 60), (0, u "rankedAnew"), (0, u "Z"), (0, .methodref 11 62), (0, .nameAndType 63 64), (0, u "packed"), (0, u "(JJI)J"), (0, .methodref 7 66), (0, .nameAndType 67 68), (0, u "add"), (0, u "(JI)V"), (0, .methodref 11 70), (0, .nameAndType 71 72), (0, u "fits"), (0, u "(JJ)Z"), (0, .long 18446744073709551615), (1, .methodref 7 76), (0, .nameAndType 77 6), (0, u "clear"), (0, .fieldref 7 79), (0, .nameAndType 80 37), (0, u "count"), (0, .fieldref 11 82), (0, .nameAndType 83 37), (0, u "freshKept"), (0, .fieldref 11 85), (0, .nameAndType 86 37), (0, u "freshAt"), (0, .methodref 11 88), (0, .nameAndType 89 6), (0, u "keepFresh"), (0, .fieldref 7 91), (0, .nameAndType 92 93), (0, u "rank"), (0, u "[J"), (0, .methodref 95 96), (0, .class_ 97), (0, .nameAndType 98 99), (0, u "java/util/Arrays"), (0, u "sort"), (0, u "([JII)V"), (0, .methodref 7 101), (0, .nameAndType 102 103), (0, u "ensure"), (0, u "(I)V"), (0, .fieldref 11 105), (0, .nameAndType 106 37), (0, u "runAt"), (0, .methodref 11 108), (0, .nameAndType 109 6), (0, u "mergeSome"), (0, .fieldref 11 111), (0, .nameAndType 112 37), (0, u "at"), (0, .methodref 11 114), (0, .nameAndType 115 6), (0, u "next"), (0, .fieldref 7 54), (4, .fieldref 11 122), (0, .nameAndType 115 46), (0, u "MERGED_AT_ONCE"), (5, u "rankAnew"), (0, u "(JJI)V"), (0, u "order"), (2, u "passedAll"), (0, u "()Z"), (0, u "index"), (0, u "()I"), (8, u "packedNext"), (0, u "()J")] 7

def k2c0 : Code := { maxStack := 5, maxLocals := 2, code := prog_98_method_1_code, exceptionTable := #[], attributes := #[] }
def k2m0 : Method := { name := "<init>", desc := "(I)V", sig := { parameters := [.int], returnType := none }, accessFlags := 0, code := some k2c0 }
def k2c1 : Code := { maxStack := 4, maxLocals := 5, code := prog_98_method_2_code, exceptionTable := #[], attributes := #[] }
def k2m1 : Method := { name := "fits", desc := "(JJ)Z", sig := { parameters := [.long, .long], returnType := some .boolean }, accessFlags := 0, code := some k2c1 }
def k2c2 : Code := { maxStack := 4, maxLocals := 2, code := prog_98_method_3_code, exceptionTable := #[], attributes := #[] }
def k2m2 : Method := { name := "rankAnew", desc := "(I)V", sig := { parameters := [.int], returnType := none }, accessFlags := 0, code := some k2c2 }
def k2c3 : Code := { maxStack := 7, maxLocals := 6, code := prog_98_method_4_code, exceptionTable := #[], attributes := #[] }
def k2m3 : Method := { name := "rank", desc := "(JJI)V", sig := { parameters := [.long, .long, .int], returnType := none }, accessFlags := 0, code := some k2c3 }
def k2c4 : Code := { maxStack := 6, maxLocals := 6, code := prog_98_method_5_code, exceptionTable := #[], attributes := #[] }
def k2m4 : Method := { name := "packed", desc := "(JJI)J", sig := { parameters := [.long, .long, .int], returnType := some .long }, accessFlags := 0, code := some k2c4 }
def k2c5 : Code := { maxStack := 3, maxLocals := 2, code := prog_98_method_7_code, exceptionTable := #[], attributes := #[] }
def k2m5 : Method := { name := "order", desc := "()V", sig := { parameters := [], returnType := none }, accessFlags := 0, code := some k2c5 }
def k2c6 : Code := { maxStack := 6, maxLocals := 1, code := prog_98_method_8_code, exceptionTable := #[], attributes := #[] }
def k2m6 : Method := { name := "keepFresh", desc := "()V", sig := { parameters := [], returnType := none }, accessFlags := 2, code := some k2c6 }
def k2c7 : Code := { maxStack := 7, maxLocals := 15, code := prog_98_method_9_code, exceptionTable := #[], attributes := #[] }
def k2m7 : Method := { name := "mergeSome", desc := "()V", sig := { parameters := [], returnType := none }, accessFlags := 2, code := some k2c7 }
def k2c8 : Code := { maxStack := 2, maxLocals := 1, code := prog_98_method_10_code, exceptionTable := #[], attributes := #[] }
def k2m8 : Method := { name := "passedAll", desc := "()Z", sig := { parameters := [], returnType := some .boolean }, accessFlags := 0, code := some k2c8 }
def k2c9 : Code := { maxStack := 1, maxLocals := 1, code := prog_98_method_11_code, exceptionTable := #[], attributes := #[] }
def k2m9 : Method := { name := "index", desc := "()I", sig := { parameters := [], returnType := some .int }, accessFlags := 0, code := some k2c9 }
def k2c10 : Code := { maxStack := 2, maxLocals := 1, code := prog_98_method_18_code, exceptionTable := #[], attributes := #[] }
def k2m10 : Method := { name := "packedNext", desc := "()J", sig := { parameters := [], returnType := some .long }, accessFlags := 0, code := some k2c10 }
def k2c11 : Code := { maxStack := 6, maxLocals := 1, code := prog_98_method_21_code, exceptionTable := #[], attributes := #[] }
def k2m11 : Method := { name := "next", desc := "()V", sig := { parameters := [], returnType := none }, accessFlags := 0, code := some k2c11 }
/-- com/example/nearfield/nearfield/job/RankedReads -/
def k2 : Class := { plain "com/example/nearfield/nearfield/job/RankedReads" (some 0) with
  accessFlags := 48
  interfaces := #[]
  cf := some (fileOf pool2 11 #[.nestMembers #[7]] #[{ accessFlags := 0, nameIndex := 5, descriptorIndex := 103, attributes := #[] }, { accessFlags := 0, nameIndex := 71, descriptorIndex := 72, attributes := #[] }, { accessFlags := 0, nameIndex := 129, descriptorIndex := 103, attributes := #[] }, { accessFlags := 0, nameIndex := 92, descriptorIndex := 130, attributes := #[] }, { accessFlags := 0, nameIndex := 63, descriptorIndex := 64, attributes := #[] }, { accessFlags := 0, nameIndex := 131, descriptorIndex := 6, attributes := #[] }, { accessFlags := 2, nameIndex := 89, descriptorIndex := 6, attributes := #[] }, { accessFlags := 2, nameIndex := 109, descriptorIndex := 6, attributes := #[] }, { accessFlags := 0, nameIndex := 134, descriptorIndex := 135, attributes := #[] }, { accessFlags := 0, nameIndex := 136, descriptorIndex := 137, attributes := #[] }, { accessFlags := 0, nameIndex := 146, descriptorIndex := 147, attributes := #[] }, { accessFlags := 0, nameIndex := 115, descriptorIndex := 6, attributes := #[] }] 48 2 #[] #[{ accessFlags := 18, nameIndex := 36, descriptorIndex := 37, attributes := #[] }, { accessFlags := 18, nameIndex := 42, descriptorIndex := 37, attributes := #[] }, { accessFlags := 18, nameIndex := 45, descriptorIndex := 46, attributes := #[] }, { accessFlags := 18, nameIndex := 49, descriptorIndex := 46, attributes := #[] }, { accessFlags := 18, nameIndex := 52, descriptorIndex := 46, attributes := #[] }, { accessFlags := 2, nameIndex := 14, descriptorIndex := 15, attributes := #[] }, { accessFlags := 2, nameIndex := 18, descriptorIndex := 15, attributes := #[] }, { accessFlags := 18, nameIndex := 21, descriptorIndex := 15, attributes := #[] }, { accessFlags := 2, nameIndex := 106, descriptorIndex := 37, attributes := #[] }, { accessFlags := 2, nameIndex := 86, descriptorIndex := 37, attributes := #[] }, { accessFlags := 2, nameIndex := 83, descriptorIndex := 37, attributes := #[] }, { accessFlags := 26, nameIndex := 123, descriptorIndex := 37, attributes := #[] }, { accessFlags := 18, nameIndex := 55, descriptorIndex := 56, attributes := #[] }, { accessFlags := 2, nameIndex := 59, descriptorIndex := 60, attributes := #[] }, { accessFlags := 2, nameIndex := 112, descriptorIndex := 37, attributes := #[] }, { accessFlags := 2, nameIndex := 115, descriptorIndex := 46, attributes := #[] }])
  fields := #[{ name := "serverBits", type := .int, accessFlags := 18, slot := 0, constantValue := 0 }, { name := "freeBits", type := .int, accessFlags := 18, slot := 1, constantValue := 0 }, { name := "serverMask", type := .long, accessFlags := 18, slot := 2, constantValue := 0 }, { name := "mostFree", type := .long, accessFlags := 18, slot := 3, constantValue := 0 }, { name := "mostSpend", type := .long, accessFlags := 18, slot := 4, constantValue := 0 }, { name := "run", type := (.object "com/example/nearfield/nearfield/job/RankedReads$Run"), accessFlags := 2, slot := 5, constantValue := 0 }, { name := "merged", type := (.object "com/example/nearfield/nearfield/job/RankedReads$Run"), accessFlags := 2, slot := 6, constantValue := 0 }, { name := "fresh", type := (.object "com/example/nearfield/nearfield/job/RankedReads$Run"), accessFlags := 18, slot := 7, constantValue := 0 }, { name := "runAt", type := .int, accessFlags := 2, slot := 8, constantValue := 0 }, { name := "freshAt", type := .int, accessFlags := 2, slot := 9, constantValue := 0 }, { name := "freshKept", type := .int, accessFlags := 2, slot := 10, constantValue := 0 }, { name := "MERGED_AT_ONCE", type := .int, accessFlags := 26, slot := 0, constantValue := 0 }, { name := "ranking", type := (.array .int), accessFlags := 18, slot := 11, constantValue := 0 }, { name := "rankedAnew", type := .boolean, accessFlags := 2, slot := 12, constantValue := 0 }, { name := "at", type := .int, accessFlags := 2, slot := 13, constantValue := 0 }, { name := "next", type := .long, accessFlags := 2, slot := 14, constantValue := 0 }]
  methods := #[k2m0, k2m1, k2m2, k2m3, k2m4, k2m5, k2m6, k2m7, k2m8, k2m9, k2m10, k2m11]
  instanceTypes := #[.int, .int, .long, .long, .long, (.object "com/example/nearfield/nearfield/job/RankedReads$Run"), (.object "com/example/nearfield/nearfield/job/RankedReads$Run"), (.object "com/example/nearfield/nearfield/job/RankedReads$Run"), .int, .int, .int, (.array .int), .boolean, .int, .long]
  staticTypes := #[.int]
  resolved := (((((Array.replicate 155 none).setIfInBounds 7 (some (.cls 3))).setIfInBounds 9 (some (.method ⟨3, 0⟩))).setIfInBounds 78 (some (.field 3 2))).setIfInBounds 90 (some (.field 3 0))).setIfInBounds 116 (some (.field 3 1))
  statics := none }

def pool3 : Array CpInfo := pool [(1, .methodref 2 3), (0, .class_ 4), (0, .nameAndType 5 6), (0, u "java/lang/Object"), (0, u "<init>"), (0, u "()V"), (0, .fieldref 8 9), (0, .class_ 10), (0, .nameAndType 11 12), (0, u "com/example/nearfield/nearfield/job/RankedReads$Run"), (0, u "rank"), (0, u "[J"), (0, .fieldref 8 14), (0, .nameAndType 15 16), (0, u "ranking"), (0, u "[I"), (0, .fieldref 8 18), (0, .nameAndType 19 20), (0, u "count"), (0, u "I"), (0, .methodref 22 23), (0, .class_ 24), (0, .nameAndType 25 26), (0, u "java/lang/Math"), (0, u "max"), (0, u "(II)I"), (11, u "clear"), (0, u "ensure"), (0, u "(I)V"), (1, u "add"), (0, u "(JI)V"), (3, .class_ 48), (0, u "com/example/nearfield/nearfield/job/RankedReads")] 2

def k3c0 : Code := { maxStack := 2, maxLocals := 1, code := prog_99_method_1_code, exceptionTable := #[], attributes := #[] }
def k3m0 : Method := { name := "<init>", desc := "()V", sig := { parameters := [], returnType := none }, accessFlags := 2, code := some k3c0 }
def k3c1 : Code := { maxStack := 2, maxLocals := 1, code := prog_99_method_2_code, exceptionTable := #[], attributes := #[] }
def k3m1 : Method := { name := "clear", desc := "()V", sig := { parameters := [], returnType := none }, accessFlags := 0, code := some k3c1 }
def k3c2 : Code := { maxStack := 5, maxLocals := 2, code := prog_99_method_3_code, exceptionTable := #[], attributes := #[] }
def k3m2 : Method := { name := "ensure", desc := "(I)V", sig := { parameters := [.int], returnType := none }, accessFlags := 0, code := some k3c2 }
def k3c3 : Code := { maxStack := 4, maxLocals := 4, code := prog_99_method_4_code, exceptionTable := #[], attributes := #[] }
def k3m3 : Method := { name := "add", desc := "(JI)V", sig := { parameters := [.long, .int], returnType := none }, accessFlags := 0, code := some k3c3 }
/-- com/example/nearfield/nearfield/job/RankedReads$Run -/
def k3 : Class := { plain "com/example/nearfield/nearfield/job/RankedReads$Run" (some 0) with
  accessFlags := 48
  interfaces := #[]
  cf := some (fileOf pool3 8 #[.nestHost 47] #[{ accessFlags := 2, nameIndex := 5, descriptorIndex := 6, attributes := #[] }, { accessFlags := 0, nameIndex := 38, descriptorIndex := 6, attributes := #[] }, { accessFlags := 0, nameIndex := 39, descriptorIndex := 40, attributes := #[] }, { accessFlags := 0, nameIndex := 42, descriptorIndex := 43, attributes := #[] }] 48 2 #[] #[{ accessFlags := 2, nameIndex := 11, descriptorIndex := 12, attributes := #[] }, { accessFlags := 2, nameIndex := 15, descriptorIndex := 16, attributes := #[] }, { accessFlags := 2, nameIndex := 19, descriptorIndex := 20, attributes := #[] }])
  fields := #[{ name := "rank", type := (.array .long), accessFlags := 2, slot := 0, constantValue := 0 }, { name := "ranking", type := (.array .int), accessFlags := 2, slot := 1, constantValue := 0 }, { name := "count", type := .int, accessFlags := 2, slot := 2, constantValue := 0 }]
  methods := #[k3m0, k3m1, k3m2, k3m3]
  instanceTypes := #[(.array .long), (.array .int), .int]
  staticTypes := #[]
  resolved := Array.replicate 51 none
  statics := none }

def pool4 : Array CpInfo := pool [(1, .class_ 2), (0, u "java/lang/Math"), (1, .class_ 6), (1, u "java/lang/Object"), (0, u "<init>"), (0, u "()V"), (89, .class_ 100), (1, u "java/lang/Math$RandomNumberGeneratorHolder"), (71, u "negativeZeroFloatBits"), (0, u "J"), (2, u "negativeZeroDoubleBits"), (21, u "max"), (46, u "$assertionsDisabled"), (0, u "Z"), (88, u "(II)I"), (2, u "twoToTheDoubleScaleDown"), (0, u "D"), (4, u "twoToTheDoubleScaleUp"), (9, u "E"), (3, u "PI"), (2, u "TAU"), (2, u "DEGREES_TO_RADIANS"), (0, u "RADIANS_TO_DEGREES")] 94

def k4m0 : Method := { name := "<init>", desc := "()V", sig := { parameters := [], returnType := none }, accessFlags := 2, code := none }
def k4c1 : Code := { maxStack := 2, maxLocals := 2, code := jdk_29_method_65_code, exceptionTable := #[], attributes := #[] }
def k4m1 : Method := { name := "max", desc := "(II)I", sig := { parameters := [.int, .int], returnType := some .int }, accessFlags := 9, code := some k4c1 }
/-- java/lang/Math -/
def k4 : Class := { plain "java/lang/Math" (some 0) with
  accessFlags := 49
  interfaces := #[]
  cf := some (fileOf pool4 1 #[.nestMembers #[98]] #[{ accessFlags := 2, nameIndex := 7, descriptorIndex := 8, attributes := #[] }, { accessFlags := 9, nameIndex := 198, descriptorIndex := 335, attributes := #[] }] 49 4 #[] #[{ accessFlags := 25, nameIndex := 354, descriptorIndex := 339, attributes := #[] }, { accessFlags := 25, nameIndex := 358, descriptorIndex := 339, attributes := #[] }, { accessFlags := 25, nameIndex := 361, descriptorIndex := 339, attributes := #[] }, { accessFlags := 26, nameIndex := 364, descriptorIndex := 339, attributes := #[] }, { accessFlags := 26, nameIndex := 365, descriptorIndex := 339, attributes := #[] }, { accessFlags := 26, nameIndex := 172, descriptorIndex := 173, attributes := #[] }, { accessFlags := 26, nameIndex := 176, descriptorIndex := 173, attributes := #[] }, { accessFlags := 8, nameIndex := 344, descriptorIndex := 339, attributes := #[] }, { accessFlags := 8, nameIndex := 338, descriptorIndex := 339, attributes := #[] }, { accessFlags := 4120, nameIndex := 245, descriptorIndex := 246, attributes := #[] }])
  fields := #[{ name := "E", type := .double, accessFlags := 25, slot := 0, constantValue := 0 }, { name := "PI", type := .double, accessFlags := 25, slot := 1, constantValue := 0 }, { name := "TAU", type := .double, accessFlags := 25, slot := 2, constantValue := 0 }, { name := "DEGREES_TO_RADIANS", type := .double, accessFlags := 26, slot := 3, constantValue := 0 }, { name := "RADIANS_TO_DEGREES", type := .double, accessFlags := 26, slot := 4, constantValue := 0 }, { name := "negativeZeroFloatBits", type := .long, accessFlags := 26, slot := 5, constantValue := 0 }, { name := "negativeZeroDoubleBits", type := .long, accessFlags := 26, slot := 6, constantValue := 0 }, { name := "twoToTheDoubleScaleUp", type := .double, accessFlags := 8, slot := 7, constantValue := 0 }, { name := "twoToTheDoubleScaleDown", type := .double, accessFlags := 8, slot := 8, constantValue := 0 }, { name := "$assertionsDisabled", type := .boolean, accessFlags := 4120, slot := 9, constantValue := 0 }]
  methods := #[k4m0, k4m1]
  instanceTypes := #[]
  staticTypes := #[.double, .double, .double, .double, .double, .long, .long, .double, .double, .boolean]
  resolved := Array.replicate 460 none
  statics := none }

def pool5 : Array CpInfo := pool [(1, .class_ 2), (0, u "java/io/Serializable"), (0, .class_ 4), (0, u "java/lang/Object")] 2

/-- java/io/Serializable -/
def k5 : Class := { plain "java/io/Serializable" (some 0) with
  accessFlags := 1537
  interfaces := #[]
  cf := some (fileOf pool5 1 #[] #[] 1537 3 #[] #[])
  fields := #[]
  methods := #[]
  instanceTypes := #[]
  staticTypes := #[]
  resolved := Array.replicate 7 none
  statics := none }

def pool6 : Array CpInfo := pool [(2, .class_ 4), (1, u "java/lang/Object"), (0, u "<init>"), (0, u "()V"), (1, .class_ 10), (1, u "java/lang/Number"), (2, .class_ 14), (0, u "java/io/Serializable"), (0, u "serialVersionUID"), (0, u "J")] 20

def k6m0 : Method := { name := "<init>", desc := "()V", sig := { parameters := [], returnType := none }, accessFlags := 1, code := none }
/-- java/lang/Number -/
def k6 : Class := { plain "java/lang/Number" (some 0) with
  accessFlags := 1057
  interfaces := #[5]
  cf := some (fileOf pool6 8 #[] #[{ accessFlags := 1, nameIndex := 5, descriptorIndex := 6, attributes := #[] }] 1057 2 #[13] #[{ accessFlags := 26, nameIndex := 15, descriptorIndex := 16, attributes := #[] }])
  fields := #[{ name := "serialVersionUID", type := .long, accessFlags := 26, slot := 0, constantValue := 0 }]
  methods := #[k6m0]
  instanceTypes := #[]
  staticTypes := #[.long]
  resolved := Array.replicate 37 none
  statics := none }

def pool7 : Array CpInfo := pool [(1, .class_ 2), (0, u "java/lang/Comparable"), (0, .class_ 4), (0, u "java/lang/Object")] 7

/-- java/lang/Comparable -/
def k7 : Class := { plain "java/lang/Comparable" (some 0) with
  accessFlags := 1537
  interfaces := #[]
  cf := some (fileOf pool7 1 #[] #[] 1537 3 #[] #[])
  fields := #[]
  methods := #[]
  instanceTypes := #[]
  staticTypes := #[]
  resolved := Array.replicate 12 none
  statics := none }

def pool8 : Array CpInfo := pool [(1, .class_ 2), (0, u "java/lang/constant/Constable"), (0, .class_ 4), (0, u "java/lang/Object")] 6

/-- java/lang/constant/Constable -/
def k8 : Class := { plain "java/lang/constant/Constable" (some 0) with
  accessFlags := 1537
  interfaces := #[]
  cf := some (fileOf pool8 1 #[] #[] 1537 3 #[] #[])
  fields := #[]
  methods := #[]
  instanceTypes := #[]
  staticTypes := #[]
  resolved := Array.replicate 11 none
  statics := none }

def pool9 : Array CpInfo := pool [(1, .class_ 2), (0, u "java/lang/constant/ConstantDesc"), (0, .class_ 4), (0, u "java/lang/Object")] 32

/-- java/lang/constant/ConstantDesc -/
def k9 : Class := { plain "java/lang/constant/ConstantDesc" (some 0) with
  accessFlags := 1537
  interfaces := #[]
  cf := some (fileOf pool9 1 #[] #[] 1537 3 #[] #[])
  fields := #[]
  methods := #[]
  instanceTypes := #[]
  staticTypes := #[]
  resolved := Array.replicate 37 none
  statics := none }

def pool10 : Array CpInfo := pool [(1, .class_ 2), (0, u "java/lang/Integer"), (16, u "digits"), (0, u "[C"), (32, u "numberOfLeadingZeros"), (0, u "(I)I"), (30, u "DigitOnes"), (0, u "[B"), (2, u "DigitTens"), (99, .class_ 190), (0, u "java/lang/Integer$IntegerCache"), (3, u "I"), (8, .class_ 204), (0, u "java/lang/Number"), (2, u "value"), (56, .integer 65536), (37, u "TYPE"), (0, u "Ljava/lang/Class;"), (0, .class_ 305), (0, u "java/lang/Comparable"), (0, .class_ 307), (0, u "java/lang/constant/Constable"), (0, .class_ 309), (0, u "java/lang/constant/ConstantDesc"), (0, u "MIN_VALUE"), (1, u "MAX_VALUE"), (3, u "SIZE"), (1, u "BYTES"), (1, u "serialVersionUID"), (0, u "J")] 131

def k10c0 : Code := { maxStack := 3, maxLocals := 2, code := jdk_33_method_47_code, exceptionTable := #[], attributes := #[] }
def k10m0 : Method := { name := "numberOfLeadingZeros", desc := "(I)I", sig := { parameters := [.int], returnType := some .int }, accessFlags := 9, code := some k10c0 }
/-- java/lang/Integer -/
def k10 : Class := { plain "java/lang/Integer" (some 6) with
  accessFlags := 49
  interfaces := #[7, 8, 9]
  cf := some (fileOf pool10 1 #[.nestMembers #[189]] #[{ accessFlags := 9, nameIndex := 53, descriptorIndex := 54, attributes := #[] }] 49 203 #[304, 306, 308] #[{ accessFlags := 25, nameIndex := 310, descriptorIndex := 194, attributes := #[] }, { accessFlags := 25, nameIndex := 312, descriptorIndex := 194, attributes := #[] }, { accessFlags := 25, nameIndex := 302, descriptorIndex := 303, attributes := #[] }, { accessFlags := 24, nameIndex := 19, descriptorIndex := 20, attributes := #[] }, { accessFlags := 24, nameIndex := 89, descriptorIndex := 86, attributes := #[] }, { accessFlags := 24, nameIndex := 85, descriptorIndex := 86, attributes := #[] }, { accessFlags := 18, nameIndex := 207, descriptorIndex := 194, attributes := #[] }, { accessFlags := 25, nameIndex := 316, descriptorIndex := 194, attributes := #[] }, { accessFlags := 25, nameIndex := 318, descriptorIndex := 194, attributes := #[] }, { accessFlags := 26, nameIndex := 320, descriptorIndex := 321, attributes := #[] }])
  fields := #[{ name := "MIN_VALUE", type := .int, accessFlags := 25, slot := 0, constantValue := 0 }, { name := "MAX_VALUE", type := .int, accessFlags := 25, slot := 1, constantValue := 0 }, { name := "TYPE", type := (.object "java/lang/Class"), accessFlags := 25, slot := 2, constantValue := 0 }, { name := "digits", type := (.array .char), accessFlags := 24, slot := 3, constantValue := 0 }, { name := "DigitTens", type := (.array .byte), accessFlags := 24, slot := 4, constantValue := 0 }, { name := "DigitOnes", type := (.array .byte), accessFlags := 24, slot := 5, constantValue := 0 }, { name := "value", type := .int, accessFlags := 18, slot := 0, constantValue := 0 }, { name := "SIZE", type := .int, accessFlags := 25, slot := 6, constantValue := 0 }, { name := "BYTES", type := .int, accessFlags := 25, slot := 7, constantValue := 0 }, { name := "serialVersionUID", type := .long, accessFlags := 26, slot := 8, constantValue := 0 }]
  methods := #[k10m0]
  instanceTypes := #[.int]
  staticTypes := #[.int, .int, (.object "java/lang/Class"), (.array .char), (.array .byte), (.array .byte), .int, .int, .long]
  resolved := Array.replicate 453 none
  statics := none }

def pool11 : Array CpInfo := pool [(2, .class_ 4), (1, u "java/lang/Object"), (0, u "<init>"), (0, u "()V"), (1, .class_ 10), (1, u "java/util/DualPivotQuicksort"), (0, u "sort"), (1, .methodref 14 15), (0, .class_ 16), (0, .nameAndType 17 18), (0, u "java/util/Arrays"), (0, u "rangeCheck"), (0, u "(III)V"), (0, .methodref 8 20), (0, .nameAndType 11 21), (0, u "([JIII)V"), (52, .class_ 76), (1, u "java/util/Arrays$NaturalOrder"), (36, .class_ 115), (1, u "java/util/Arrays$LegacyMergeSort"), (1, u "Z"), (257, .class_ 376), (0, u "java/util/Arrays$ArrayList"), (68, u "$assertionsDisabled"), (269, u "MIN_ARRAY_SORT_GRAN"), (0, u "I"), (2, u "INSERTIONSORT_THRESHOLD"), (12, u "([JII)V"), (242, .class_ 976), (0, u "java/util/Arrays$ArrayItr")] 52

def k11m0 : Method := { name := "<init>", desc := "()V", sig := { parameters := [], returnType := none }, accessFlags := 2, code := none }
def k11c1 : Code := { maxStack := 4, maxLocals := 3, code := jdk_65_method_5_code, exceptionTable := #[], attributes := #[] }
def k11m1 : Method := { name := "sort", desc := "([JII)V", sig := { parameters := [(.array .long), .int, .int], returnType := none }, accessFlags := 9, code := some k11c1 }
def k11c2 : Code := { maxStack := 4, maxLocals := 3, code := jdk_65_method_30_code, exceptionTable := #[], attributes := #[] }
def k11m2 : Method := { name := "rangeCheck", desc := "(III)V", sig := { parameters := [.int, .int, .int], returnType := none }, accessFlags := 8, code := some k11c2 }
/-- java/util/Arrays -/
def k11 : Class := { plain "java/util/Arrays" (some 0) with
  accessFlags := 49
  interfaces := #[]
  cf := some (fileOf pool11 14 #[.nestMembers #[975, 375, 113, 74]] #[{ accessFlags := 2, nameIndex := 5, descriptorIndex := 6, attributes := #[] }, { accessFlags := 9, nameIndex := 11, descriptorIndex := 732, attributes := #[] }, { accessFlags := 8, nameIndex := 17, descriptorIndex := 18, attributes := #[] }] 49 2 #[] #[{ accessFlags := 26, nameIndex := 715, descriptorIndex := 716, attributes := #[] }, { accessFlags := 26, nameIndex := 719, descriptorIndex := 716, attributes := #[] }, { accessFlags := 4120, nameIndex := 445, descriptorIndex := 117, attributes := #[] }])
  fields := #[{ name := "MIN_ARRAY_SORT_GRAN", type := .int, accessFlags := 26, slot := 0, constantValue := 0 }, { name := "INSERTIONSORT_THRESHOLD", type := .int, accessFlags := 26, slot := 1, constantValue := 0 }, { name := "$assertionsDisabled", type := .boolean, accessFlags := 4120, slot := 2, constantValue := 0 }]
  methods := #[k11m0, k11m1, k11m2]
  instanceTypes := #[]
  staticTypes := #[.int, .int, .boolean]
  resolved := Array.replicate 1029 none
  statics := none }

def pool12 : Array CpInfo := pool [(1, .class_ 2), (0, u "java/util/DualPivotQuicksort"), (5, .class_ 10), (1, u "java/lang/Object"), (0, u "<init>"), (0, u "()V"), (4, .class_ 18), (0, u "java/util/DualPivotQuicksort$Sorter"), (9, u "sort"), (7, u "insertionSort"), (31, u "I"), (4, .class_ 74), (0, u "java/util/DualPivotQuicksort$RunMerger"), (10, .class_ 86), (0, u "java/util/DualPivotQuicksort$Merger"), (12, .methodref 1 100), (0, .nameAndType 28 101), (0, u "(Ljava/util/DualPivotQuicksort$Sorter;[JIII)V"), (2, u "([JIII)V"), (0, .methodref 1 106), (0, .nameAndType 36 107), (0, u "([JII)V"), (106, u "MAX_MIXED_INSERTION_SORT_SIZE"), (2, u "MAX_INSERTION_SORT_SIZE"), (1, u "MIN_PARALLEL_SORT_SIZE"), (1, u "MIN_TRY_MERGE_SIZE"), (0, u "MIN_FIRST_RUN_SIZE"), (1, u "MIN_FIRST_RUNS_FACTOR"), (1, u "MAX_RUN_CAPACITY"), (1, u "MIN_RUN_COUNT"), (1, u "MIN_PARALLEL_MERGE_PARTS_SIZE"), (0, u "MIN_BYTE_COUNTING_SORT_SIZE"), (1, u "MIN_SHORT_OR_CHAR_COUNTING_SORT_SIZE"), (1, u "DELTA"), (1, u "MAX_RECURSION_DEPTH"), (1, u "NUM_BYTE_VALUES"), (1, u "MAX_BYTE_INDEX"), (0, u "NUM_CHAR_VALUES"), (0, u "NUM_SHORT_VALUES"), (0, u "MAX_SHORT_INDEX")] 86

def k12m0 : Method := { name := "<init>", desc := "()V", sig := { parameters := [], returnType := none }, accessFlags := 2, code := none }
def k12c1 : Code := { maxStack := 9, maxLocals := 7, code := jdk_2529_method_12_code, exceptionTable := #[], attributes := #[] }
def k12m1 : Method := { name := "sort", desc := "([JIII)V", sig := { parameters := [(.array .long), .int, .int, .int], returnType := none }, accessFlags := 8, code := some k12c1 }
def k12c2 : Code := { maxStack := 6, maxLocals := 25, code := jdk_2529_method_13_code, exceptionTable := #[], attributes := #[] }
def k12m2 : Method := { name := "sort", desc := "(Ljava/util/DualPivotQuicksort$Sorter;[JIII)V", sig := { parameters := [(.object "java/util/DualPivotQuicksort$Sorter"), (.array .long), .int, .int, .int], returnType := none }, accessFlags := 8, code := some k12c2 }
def k12c3 : Code := { maxStack := 5, maxLocals := 7, code := jdk_2529_method_15_code, exceptionTable := #[], attributes := #[] }
def k12m3 : Method := { name := "insertionSort", desc := "([JII)V", sig := { parameters := [(.array .long), .int, .int], returnType := none }, accessFlags := 10, code := some k12c3 }
/-- java/util/DualPivotQuicksort -/
def k12 : Class := { plain "java/util/DualPivotQuicksort" (some 0) with
  accessFlags := 48
  interfaces := #[]
  cf := some (fileOf pool12 1 #[.nestMembers #[73, 85, 17]] #[{ accessFlags := 2, nameIndex := 11, descriptorIndex := 12, attributes := #[] }, { accessFlags := 8, nameIndex := 28, descriptorIndex := 104, attributes := #[] }, { accessFlags := 8, nameIndex := 28, descriptorIndex := 101, attributes := #[] }, { accessFlags := 10, nameIndex := 36, descriptorIndex := 107, attributes := #[] }] 48 8 #[] #[{ accessFlags := 26, nameIndex := 214, descriptorIndex := 68, attributes := #[] }, { accessFlags := 26, nameIndex := 217, descriptorIndex := 68, attributes := #[] }, { accessFlags := 26, nameIndex := 219, descriptorIndex := 68, attributes := #[] }, { accessFlags := 26, nameIndex := 221, descriptorIndex := 68, attributes := #[] }, { accessFlags := 26, nameIndex := 222, descriptorIndex := 68, attributes := #[] }, { accessFlags := 26, nameIndex := 224, descriptorIndex := 68, attributes := #[] }, { accessFlags := 26, nameIndex := 226, descriptorIndex := 68, attributes := #[] }, { accessFlags := 26, nameIndex := 228, descriptorIndex := 68, attributes := #[] }, { accessFlags := 26, nameIndex := 230, descriptorIndex := 68, attributes := #[] }, { accessFlags := 26, nameIndex := 231, descriptorIndex := 68, attributes := #[] }, { accessFlags := 26, nameIndex := 233, descriptorIndex := 68, attributes := #[] }, { accessFlags := 26, nameIndex := 235, descriptorIndex := 68, attributes := #[] }, { accessFlags := 26, nameIndex := 237, descriptorIndex := 68, attributes := #[] }, { accessFlags := 26, nameIndex := 239, descriptorIndex := 68, attributes := #[] }, { accessFlags := 26, nameIndex := 241, descriptorIndex := 68, attributes := #[] }, { accessFlags := 26, nameIndex := 242, descriptorIndex := 68, attributes := #[] }, { accessFlags := 26, nameIndex := 243, descriptorIndex := 68, attributes := #[] }, { accessFlags := 26, nameIndex := 244, descriptorIndex := 68, attributes := #[] }])
  fields := #[{ name := "MAX_MIXED_INSERTION_SORT_SIZE", type := .int, accessFlags := 26, slot := 0, constantValue := 0 }, { name := "MAX_INSERTION_SORT_SIZE", type := .int, accessFlags := 26, slot := 1, constantValue := 0 }, { name := "MIN_PARALLEL_SORT_SIZE", type := .int, accessFlags := 26, slot := 2, constantValue := 0 }, { name := "MIN_TRY_MERGE_SIZE", type := .int, accessFlags := 26, slot := 3, constantValue := 0 }, { name := "MIN_FIRST_RUN_SIZE", type := .int, accessFlags := 26, slot := 4, constantValue := 0 }, { name := "MIN_FIRST_RUNS_FACTOR", type := .int, accessFlags := 26, slot := 5, constantValue := 0 }, { name := "MAX_RUN_CAPACITY", type := .int, accessFlags := 26, slot := 6, constantValue := 0 }, { name := "MIN_RUN_COUNT", type := .int, accessFlags := 26, slot := 7, constantValue := 0 }, { name := "MIN_PARALLEL_MERGE_PARTS_SIZE", type := .int, accessFlags := 26, slot := 8, constantValue := 0 }, { name := "MIN_BYTE_COUNTING_SORT_SIZE", type := .int, accessFlags := 26, slot := 9, constantValue := 0 }, { name := "MIN_SHORT_OR_CHAR_COUNTING_SORT_SIZE", type := .int, accessFlags := 26, slot := 10, constantValue := 0 }, { name := "DELTA", type := .int, accessFlags := 26, slot := 11, constantValue := 0 }, { name := "MAX_RECURSION_DEPTH", type := .int, accessFlags := 26, slot := 12, constantValue := 0 }, { name := "NUM_BYTE_VALUES", type := .int, accessFlags := 26, slot := 13, constantValue := 0 }, { name := "MAX_BYTE_INDEX", type := .int, accessFlags := 26, slot := 14, constantValue := 0 }, { name := "NUM_CHAR_VALUES", type := .int, accessFlags := 26, slot := 15, constantValue := 0 }, { name := "NUM_SHORT_VALUES", type := .int, accessFlags := 26, slot := 16, constantValue := 0 }, { name := "MAX_SHORT_INDEX", type := .int, accessFlags := 26, slot := 17, constantValue := 0 }]
  methods := #[k12m0, k12m1, k12m2, k12m3]
  instanceTypes := #[]
  staticTypes := #[.int, .int, .int, .int, .int, .int, .int, .int, .int, .int, .int, .int, .int, .int, .int, .int, .int, .int]
  resolved := Array.replicate 331 none
  statics := none }

def pool13 : Array CpInfo := pool [(1, u "java/lang/Cloneable"), (0, .class_ 1), (0, u "java/lang/Object"), (0, .class_ 3)] 3

/-- java/lang/Cloneable -/
def k13 : Class := { plain "java/lang/Cloneable" (some 0) with
  accessFlags := 1537
  interfaces := #[]
  cf := some (fileOf pool13 2 #[] #[] 1537 4 #[] #[])
  fields := #[]
  methods := #[]
  instanceTypes := #[]
  staticTypes := #[]
  resolved := Array.replicate 8 none
  statics := none }

/-- the primitive byte -/
def k14 : Class := { plain "byte" none with kind := .primitive 'B', accessFlags := 0x411 }
/-- [B -/
def k15 : Class := { plain "[B" (some 0) with kind := .array 14 .byte, interfaces := #[13, 5], accessFlags := 1041 }

/-- the primitive int -/
def k16 : Class := { plain "int" none with kind := .primitive 'I', accessFlags := 0x411 }
/-- [I -/
def k17 : Class := { plain "[I" (some 0) with kind := .array 16 .int, interfaces := #[13, 5], accessFlags := 1041 }

/-- the primitive long -/
def k18 : Class := { plain "long" none with kind := .primitive 'J', accessFlags := 0x411 }
/-- [J -/
def k19 : Class := { plain "[J" (some 0) with kind := .array 18 .long, interfaces := #[13, 5], accessFlags := 1041 }

def heap : Heap := #[]
def classes : Array Class := #[k0, k1, k2, k3, k4, k5, k6, k7, k8, k9, k10, k11, k12, k13, k14, k15, k16, k17, k18, k19]
def interned : List (Array UInt16 × Addr) := []
def slotsUsed : Nat := 0
def theMethod : MethodId := ⟨1, 3⟩
def args0 : Array Value := #[.long 21474836487, .long 5, .long 12884901891, .int 2]
def aboutOver (below : List Frame) : State where
  vm := { classes := classes, interned := interned.toArray }
  heap := heap
  slotsUsed := slotsUsed
  threads := #[{ frames := .invoking theMethod args0 :: below }]
def below0 : List Frame := [.native { method := ⟨0, 0⟩, args := #[] }]
def about1 : State := aboutOver below0
def p0 : Program := .bare "" "" ""
def e0 : Env := launch0.env 0 0 0
theorem w_frames : about1.frames = Frame.invoking theMethod args0 :: below0 := rfl
set_option maxRecDepth 65536 in
theorem w_args : argsFit about1.vm theMethod args0 = true := by decide +kernel
set_option maxRecDepth 65536 in
theorem w_heap : heapFits about1 = true := by decide +kernel
set_option maxRecDepth 65536 in
theorem w_runnable : about1.curStatus? = some .runnable := by decide +kernel
set_option maxRecDepth 65536 in
theorem w_alone : about1.alone = true := by decide +kernel
set_option maxRecDepth 65536 in
theorem w_named : about1.methodNamed? x = some theMethod := by decide +kernel
set_option maxRecDepth 65536 in
theorem w_hears : about1.hears theMethod below0 = true := by decide +kernel
set_option maxRecDepth 65536 in
theorem w_ripe : about1.ripe theMethod args0 below0 = true := by decide +kernel
theorem w_running : about1.status = .running := rfl
set_option maxRecDepth 65536 in
theorem w_room : about1.hasRoom e0.platform room_1 = true :=
  launch0.hasRoom_least _ room_1 (by decide +kernel) (by decide +kernel) (by decide +kernel) (by decide +kernel) (by decide +kernel) (by decide +kernel)
theorem allAtoms_all (ts : List Jvm.Cond) (a : Array Jvm.Value) (st : Jvm.State) : (allAtoms ts).before a st = ts.all (fun c => c.before a st) := by
  induction ts with
  | nil => rfl
  | cons c t ih =>
    show (Jvm.Cond.and c (allAtoms t)).before a st = _
    rw [Jvm.Cond.before_and, ih, List.all_cons]
def words1 : List Jvm.Cond := Jvm.Cond.code x code maxLocals ret :: tables_1
/-- a 'code' word, met by the world's own term for the bytes: nothing is compared byte by byte -/
theorem code_word {y : MethodName} {bytes : ByteArray} {mx : Nat} {rt : Option FieldType} {a : Array Value} {s : State} {m : MethodId} {meth : Method} {c : Code} (h1 : s.methodNamed? y = some m) (h2 : s.vm.method? m = some meth) (h3 : meth.code = some c) (h4 : c.code = bytes)
    (h5 : (c.maxLocals == mx && c.exceptionTable.isEmpty && decide (c.maxStack ≤ mostOperands) && decide (meth.sig.returnType = rt) && !meth.locks && decide (parseMethodDescriptor y.desc = some meth.sig)) = true) : (Jvm.Cond.code y bytes mx rt).before a s = true := by
  simp only [Bool.and_eq_true, beq_iff_eq, Bool.not_eq_true', decide_eq_true_eq] at h5
  obtain ⟨⟨⟨⟨⟨g1, g2⟩, g3⟩, g4⟩, g5⟩, g6⟩ := h5
  simp [Cond.before, Cond.holds, Cond.value, h1, h2, h3, h4, g1, g2, g3, g4, g5, g6]
def isCode : Jvm.Cond → Bool
  | .code _ _ _ _ => true
  | _ => false
theorem all_split {L : List Jvm.Cond} {P : Jvm.Cond → Bool} (h1 : L.all (fun c => isCode c || P c) = true) (h2 : ∀ c ∈ L.filter isCode, P c = true) : L.all P = true := by
  refine List.all_eq_true.mpr fun c hc => ?_
  have h := List.all_eq_true.mp h1 c hc
  rcases Bool.eq_false_or_eq_true (isCode c) with hi | hi
  · exact h2 c (List.mem_filter.mpr ⟨hc, hi⟩)
  · simpa [hi] using h
set_option maxRecDepth 65536 in
theorem w_c0 : (Jvm.Cond.code x code maxLocals ret).before args0 about1 = true := code_word (m := ⟨1, 3⟩) (meth := k1m3) (c := k1c3) (by decide +kernel) rfl rfl rfl (by decide +kernel)
set_option maxRecDepth 65536 in
theorem w_c1 : (Jvm.Cond.code ({ cls := "com/example/nearfield/nearfield/job/RankedReads", name := "<init>", desc := "(I)V" } : Jvm.MethodName) prog_98_method_1_code (2 : Nat) (Option.none : Option Jvm.ClassFile.FieldType)).before args0 about1 = true := code_word (m := ⟨2, 0⟩) (meth := k2m0) (c := k2c0) (by decide +kernel) rfl rfl rfl (by decide +kernel)
set_option maxRecDepth 65536 in
theorem w_c2 : (Jvm.Cond.code ({ cls := "java/lang/Object", name := "<init>", desc := "()V" } : Jvm.MethodName) object_method_1_code (1 : Nat) (Option.none : Option Jvm.ClassFile.FieldType)).before args0 about1 = true := code_word (m := ⟨0, 0⟩) (meth := k0m0) (c := k0c0) (by decide +kernel) rfl rfl rfl (by decide +kernel)
set_option maxRecDepth 65536 in
theorem w_c3 : (Jvm.Cond.code ({ cls := "com/example/nearfield/nearfield/job/RankedReads$Run", name := "<init>", desc := "()V" } : Jvm.MethodName) prog_99_method_1_code (1 : Nat) (Option.none : Option Jvm.ClassFile.FieldType)).before args0 about1 = true := code_word (m := ⟨3, 0⟩) (meth := k3m0) (c := k3c0) (by decide +kernel) rfl rfl rfl (by decide +kernel)
set_option maxRecDepth 65536 in
theorem w_c4 : (Jvm.Cond.code ({ cls := "java/lang/Math", name := "max", desc := "(II)I" } : Jvm.MethodName) jdk_29_method_65_code (2 : Nat) (Option.some Jvm.ClassFile.FieldType.int)).before args0 about1 = true := code_word (m := ⟨4, 1⟩) (meth := k4m1) (c := k4c1) (by decide +kernel) rfl rfl rfl (by decide +kernel)
set_option maxRecDepth 65536 in
theorem w_c5 : (Jvm.Cond.code ({ cls := "java/lang/Integer", name := "numberOfLeadingZeros", desc := "(I)I" } : Jvm.MethodName) jdk_33_method_47_code (2 : Nat) (Option.some Jvm.ClassFile.FieldType.int)).before args0 about1 = true := code_word (m := ⟨10, 0⟩) (meth := k10m0) (c := k10c0) (by decide +kernel) rfl rfl rfl (by decide +kernel)
set_option maxRecDepth 65536 in
theorem w_c6 : (Jvm.Cond.code ({ cls := "com/example/nearfield/nearfield/job/RankedReads", name := "rank", desc := "(JJI)V" } : Jvm.MethodName) prog_98_method_4_code (6 : Nat) (Option.none : Option Jvm.ClassFile.FieldType)).before args0 about1 = true := code_word (m := ⟨2, 3⟩) (meth := k2m3) (c := k2c3) (by decide +kernel) rfl rfl rfl (by decide +kernel)
set_option maxRecDepth 65536 in
theorem w_c7 : (Jvm.Cond.code ({ cls := "com/example/nearfield/nearfield/job/RankedReads", name := "packed", desc := "(JJI)J" } : Jvm.MethodName) prog_98_method_5_code (6 : Nat) (Option.some Jvm.ClassFile.FieldType.long)).before args0 about1 = true := code_word (m := ⟨2, 4⟩) (meth := k2m4) (c := k2c4) (by decide +kernel) rfl rfl rfl (by decide +kernel)
set_option maxRecDepth 65536 in
theorem w_c8 : (Jvm.Cond.code ({ cls := "com/example/nearfield/nearfield/job/RankedReads", name := "fits", desc := "(JJ)Z" } : Jvm.MethodName) prog_98_method_2_code (5 : Nat) (Option.some Jvm.ClassFile.FieldType.boolean)).before args0 about1 = true := code_word (m := ⟨2, 1⟩) (meth := k2m1) (c := k2c1) (by decide +kernel) rfl rfl rfl (by decide +kernel)
set_option maxRecDepth 65536 in
theorem w_c9 : (Jvm.Cond.code ({ cls := "com/example/nearfield/nearfield/job/RankedReads$Run", name := "add", desc := "(JI)V" } : Jvm.MethodName) prog_99_method_4_code (4 : Nat) (Option.none : Option Jvm.ClassFile.FieldType)).before args0 about1 = true := code_word (m := ⟨3, 3⟩) (meth := k3m3) (c := k3c3) (by decide +kernel) rfl rfl rfl (by decide +kernel)
set_option maxRecDepth 65536 in
theorem w_c10 : (Jvm.Cond.code ({ cls := "com/example/nearfield/nearfield/job/RankedReads", name := "order", desc := "()V" } : Jvm.MethodName) prog_98_method_7_code (2 : Nat) (Option.none : Option Jvm.ClassFile.FieldType)).before args0 about1 = true := code_word (m := ⟨2, 5⟩) (meth := k2m5) (c := k2c5) (by decide +kernel) rfl rfl rfl (by decide +kernel)
set_option maxRecDepth 65536 in
theorem w_c11 : (Jvm.Cond.code ({ cls := "com/example/nearfield/nearfield/job/RankedReads", name := "keepFresh", desc := "()V" } : Jvm.MethodName) prog_98_method_8_code (1 : Nat) (Option.none : Option Jvm.ClassFile.FieldType)).before args0 about1 = true := code_word (m := ⟨2, 6⟩) (meth := k2m6) (c := k2c6) (by decide +kernel) rfl rfl rfl (by decide +kernel)
set_option maxRecDepth 65536 in
theorem w_c12 : (Jvm.Cond.code ({ cls := "java/util/Arrays", name := "sort", desc := "([JII)V" } : Jvm.MethodName) jdk_65_method_5_code (3 : Nat) (Option.none : Option Jvm.ClassFile.FieldType)).before args0 about1 = true := code_word (m := ⟨11, 1⟩) (meth := k11m1) (c := k11c1) (by decide +kernel) rfl rfl rfl (by decide +kernel)
set_option maxRecDepth 65536 in
theorem w_c13 : (Jvm.Cond.code ({ cls := "java/util/Arrays", name := "rangeCheck", desc := "(III)V" } : Jvm.MethodName) jdk_65_method_30_code (3 : Nat) (Option.none : Option Jvm.ClassFile.FieldType)).before args0 about1 = true := code_word (m := ⟨11, 2⟩) (meth := k11m2) (c := k11c2) (by decide +kernel) rfl rfl rfl (by decide +kernel)
set_option maxRecDepth 65536 in
theorem w_c14 : (Jvm.Cond.code ({ cls := "java/util/DualPivotQuicksort", name := "sort", desc := "([JIII)V" } : Jvm.MethodName) jdk_2529_method_12_code (7 : Nat) (Option.none : Option Jvm.ClassFile.FieldType)).before args0 about1 = true := code_word (m := ⟨12, 1⟩) (meth := k12m1) (c := k12c1) (by decide +kernel) rfl rfl rfl (by decide +kernel)
set_option maxRecDepth 65536 in
theorem w_c15 : (Jvm.Cond.code ({ cls := "java/util/DualPivotQuicksort", name := "sort", desc := "(Ljava/util/DualPivotQuicksort$Sorter;[JIII)V" } : Jvm.MethodName) jdk_2529_method_13_code (25 : Nat) (Option.none : Option Jvm.ClassFile.FieldType)).before args0 about1 = true := code_word (m := ⟨12, 2⟩) (meth := k12m2) (c := k12c2) (by decide +kernel) rfl rfl rfl (by decide +kernel)
set_option maxRecDepth 65536 in
theorem w_c16 : (Jvm.Cond.code ({ cls := "java/util/DualPivotQuicksort", name := "insertionSort", desc := "([JII)V" } : Jvm.MethodName) jdk_2529_method_15_code (7 : Nat) (Option.none : Option Jvm.ClassFile.FieldType)).before args0 about1 = true := code_word (m := ⟨12, 3⟩) (meth := k12m3) (c := k12c3) (by decide +kernel) rfl rfl rfl (by decide +kernel)
set_option maxRecDepth 65536 in
theorem w_c17 : (Jvm.Cond.code ({ cls := "com/example/nearfield/nearfield/job/RankedReads$Run", name := "clear", desc := "()V" } : Jvm.MethodName) prog_99_method_2_code (1 : Nat) (Option.none : Option Jvm.ClassFile.FieldType)).before args0 about1 = true := code_word (m := ⟨3, 1⟩) (meth := k3m1) (c := k3c1) (by decide +kernel) rfl rfl rfl (by decide +kernel)
set_option maxRecDepth 65536 in
theorem w_c18 : (Jvm.Cond.code ({ cls := "com/example/nearfield/nearfield/job/RankedReads$Run", name := "ensure", desc := "(I)V" } : Jvm.MethodName) prog_99_method_3_code (2 : Nat) (Option.none : Option Jvm.ClassFile.FieldType)).before args0 about1 = true := code_word (m := ⟨3, 2⟩) (meth := k3m2) (c := k3c2) (by decide +kernel) rfl rfl rfl (by decide +kernel)
set_option maxRecDepth 65536 in
theorem w_c19 : (Jvm.Cond.code ({ cls := "com/example/nearfield/nearfield/job/RankedReads", name := "mergeSome", desc := "()V" } : Jvm.MethodName) prog_98_method_9_code (15 : Nat) (Option.none : Option Jvm.ClassFile.FieldType)).before args0 about1 = true := code_word (m := ⟨2, 7⟩) (meth := k2m7) (c := k2c7) (by decide +kernel) rfl rfl rfl (by decide +kernel)
set_option maxRecDepth 65536 in
theorem w_c20 : (Jvm.Cond.code ({ cls := "com/example/nearfield/nearfield/job/RankedReads", name := "next", desc := "()V" } : Jvm.MethodName) prog_98_method_21_code (1 : Nat) (Option.none : Option Jvm.ClassFile.FieldType)).before args0 about1 = true := code_word (m := ⟨2, 11⟩) (meth := k2m11) (c := k2c11) (by decide +kernel) rfl rfl rfl (by decide +kernel)
set_option maxRecDepth 65536 in
theorem w_c21 : (Jvm.Cond.code ({ cls := "com/example/nearfield/nearfield/job/RankedReadsNextPinLaw", name := "pk", desc := "(JJI)J" } : Jvm.MethodName) method_2_code (5 : Nat) (Option.some Jvm.ClassFile.FieldType.long)).before args0 about1 = true := code_word (m := ⟨1, 1⟩) (meth := k1m1) (c := k1c1) (by decide +kernel) rfl rfl rfl (by decide +kernel)
set_option maxRecDepth 65536 in
theorem w_c22 : (Jvm.Cond.code ({ cls := "com/example/nearfield/nearfield/job/RankedReadsNextPinLaw", name := "pos", desc := "(JJJ)I" } : Jvm.MethodName) method_3_code (7 : Nat) (Option.some Jvm.ClassFile.FieldType.int)).before args0 about1 = true := code_word (m := ⟨1, 2⟩) (meth := k1m2) (c := k1c2) (by decide +kernel) rfl rfl rfl (by decide +kernel)
set_option maxRecDepth 65536 in
theorem w_c23 : (Jvm.Cond.code ({ cls := "com/example/nearfield/nearfield/job/RankedReads", name := "index", desc := "()I" } : Jvm.MethodName) prog_98_method_11_code (1 : Nat) (Option.some Jvm.ClassFile.FieldType.int)).before args0 about1 = true := code_word (m := ⟨2, 9⟩) (meth := k2m9) (c := k2c9) (by decide +kernel) rfl rfl rfl (by decide +kernel)
set_option maxRecDepth 65536 in
theorem w_c24 : (Jvm.Cond.code ({ cls := "com/example/nearfield/nearfield/job/RankedReads", name := "packedNext", desc := "()J" } : Jvm.MethodName) prog_98_method_18_code (1 : Nat) (Option.some Jvm.ClassFile.FieldType.long)).before args0 about1 = true := code_word (m := ⟨2, 10⟩) (meth := k2m10) (c := k2c10) (by decide +kernel) rfl rfl rfl (by decide +kernel)
set_option maxRecDepth 65536 in
theorem w_c25 : (Jvm.Cond.code ({ cls := "com/example/nearfield/nearfield/job/RankedReads", name := "rankAnew", desc := "(I)V" } : Jvm.MethodName) prog_98_method_3_code (2 : Nat) (Option.none : Option Jvm.ClassFile.FieldType)).before args0 about1 = true := code_word (m := ⟨2, 2⟩) (meth := k2m2) (c := k2c2) (by decide +kernel) rfl rfl rfl (by decide +kernel)
set_option maxRecDepth 65536 in
theorem w_c26 : (Jvm.Cond.code ({ cls := "com/example/nearfield/nearfield/job/RankedReads", name := "passedAll", desc := "()Z" } : Jvm.MethodName) prog_98_method_10_code (1 : Nat) (Option.some Jvm.ClassFile.FieldType.boolean)).before args0 about1 = true := code_word (m := ⟨2, 8⟩) (meth := k2m8) (c := k2c8) (by decide +kernel) rfl rfl rfl (by decide +kernel)
def codes1 : List Jvm.Cond := [Jvm.Cond.code x code maxLocals ret, Jvm.Cond.code ({ cls := "com/example/nearfield/nearfield/job/RankedReads", name := "<init>", desc := "(I)V" } : Jvm.MethodName) prog_98_method_1_code (2 : Nat) (Option.none : Option Jvm.ClassFile.FieldType), Jvm.Cond.code ({ cls := "java/lang/Object", name := "<init>", desc := "()V" } : Jvm.MethodName) object_method_1_code (1 : Nat) (Option.none : Option Jvm.ClassFile.FieldType), Jvm.Cond.code ({ cls := "com/example/nearfield/nearfield/job/RankedReads$Run", name := "<init>", desc := "()V" } : Jvm.MethodName) prog_99_method_1_code (1 : Nat) (Option.none : Option Jvm.ClassFile.FieldType), Jvm.Cond.code ({ cls := "java/lang/Math", name := "max", desc := "(II)I" } : Jvm.MethodName) jdk_29_method_65_code (2 : Nat) (Option.some Jvm.ClassFile.FieldType.int), Jvm.Cond.code ({ cls := "java/lang/Integer", name := "numberOfLeadingZeros", desc := "(I)I" } : Jvm.MethodName) jdk_33_method_47_code (2 : Nat) (Option.some Jvm.ClassFile.FieldType.int), Jvm.Cond.code ({ cls := "com/example/nearfield/nearfield/job/RankedReads", name := "rank", desc := "(JJI)V" } : Jvm.MethodName) prog_98_method_4_code (6 : Nat) (Option.none : Option Jvm.ClassFile.FieldType), Jvm.Cond.code ({ cls := "com/example/nearfield/nearfield/job/RankedReads", name := "packed", desc := "(JJI)J" } : Jvm.MethodName) prog_98_method_5_code (6 : Nat) (Option.some Jvm.ClassFile.FieldType.long), Jvm.Cond.code ({ cls := "com/example/nearfield/nearfield/job/RankedReads", name := "fits", desc := "(JJ)Z" } : Jvm.MethodName) prog_98_method_2_code (5 : Nat) (Option.some Jvm.ClassFile.FieldType.boolean), Jvm.Cond.code ({ cls := "com/example/nearfield/nearfield/job/RankedReads$Run", name := "add", desc := "(JI)V" } : Jvm.MethodName) prog_99_method_4_code (4 : Nat) (Option.none : Option Jvm.ClassFile.FieldType), Jvm.Cond.code ({ cls := "com/example/nearfield/nearfield/job/RankedReads", name := "order", desc := "()V" } : Jvm.MethodName) prog_98_method_7_code (2 : Nat) (Option.none : Option Jvm.ClassFile.FieldType), Jvm.Cond.code ({ cls := "com/example/nearfield/nearfield/job/RankedReads", name := "keepFresh", desc := "()V" } : Jvm.MethodName) prog_98_method_8_code (1 : Nat) (Option.none : Option Jvm.ClassFile.FieldType), Jvm.Cond.code ({ cls := "java/util/Arrays", name := "sort", desc := "([JII)V" } : Jvm.MethodName) jdk_65_method_5_code (3 : Nat) (Option.none : Option Jvm.ClassFile.FieldType), Jvm.Cond.code ({ cls := "java/util/Arrays", name := "rangeCheck", desc := "(III)V" } : Jvm.MethodName) jdk_65_method_30_code (3 : Nat) (Option.none : Option Jvm.ClassFile.FieldType), Jvm.Cond.code ({ cls := "java/util/DualPivotQuicksort", name := "sort", desc := "([JIII)V" } : Jvm.MethodName) jdk_2529_method_12_code (7 : Nat) (Option.none : Option Jvm.ClassFile.FieldType), Jvm.Cond.code ({ cls := "java/util/DualPivotQuicksort", name := "sort", desc := "(Ljava/util/DualPivotQuicksort$Sorter;[JIII)V" } : Jvm.MethodName) jdk_2529_method_13_code (25 : Nat) (Option.none : Option Jvm.ClassFile.FieldType), Jvm.Cond.code ({ cls := "java/util/DualPivotQuicksort", name := "insertionSort", desc := "([JII)V" } : Jvm.MethodName) jdk_2529_method_15_code (7 : Nat) (Option.none : Option Jvm.ClassFile.FieldType), Jvm.Cond.code ({ cls := "com/example/nearfield/nearfield/job/RankedReads$Run", name := "clear", desc := "()V" } : Jvm.MethodName) prog_99_method_2_code (1 : Nat) (Option.none : Option Jvm.ClassFile.FieldType), Jvm.Cond.code ({ cls := "com/example/nearfield/nearfield/job/RankedReads$Run", name := "ensure", desc := "(I)V" } : Jvm.MethodName) prog_99_method_3_code (2 : Nat) (Option.none : Option Jvm.ClassFile.FieldType), Jvm.Cond.code ({ cls := "com/example/nearfield/nearfield/job/RankedReads", name := "mergeSome", desc := "()V" } : Jvm.MethodName) prog_98_method_9_code (15 : Nat) (Option.none : Option Jvm.ClassFile.FieldType), Jvm.Cond.code ({ cls := "com/example/nearfield/nearfield/job/RankedReads", name := "next", desc := "()V" } : Jvm.MethodName) prog_98_method_21_code (1 : Nat) (Option.none : Option Jvm.ClassFile.FieldType), Jvm.Cond.code ({ cls := "com/example/nearfield/nearfield/job/RankedReadsNextPinLaw", name := "pk", desc := "(JJI)J" } : Jvm.MethodName) method_2_code (5 : Nat) (Option.some Jvm.ClassFile.FieldType.long), Jvm.Cond.code ({ cls := "com/example/nearfield/nearfield/job/RankedReadsNextPinLaw", name := "pos", desc := "(JJJ)I" } : Jvm.MethodName) method_3_code (7 : Nat) (Option.some Jvm.ClassFile.FieldType.int), Jvm.Cond.code ({ cls := "com/example/nearfield/nearfield/job/RankedReads", name := "index", desc := "()I" } : Jvm.MethodName) prog_98_method_11_code (1 : Nat) (Option.some Jvm.ClassFile.FieldType.int), Jvm.Cond.code ({ cls := "com/example/nearfield/nearfield/job/RankedReads", name := "packedNext", desc := "()J" } : Jvm.MethodName) prog_98_method_18_code (1 : Nat) (Option.some Jvm.ClassFile.FieldType.long), Jvm.Cond.code ({ cls := "com/example/nearfield/nearfield/job/RankedReads", name := "rankAnew", desc := "(I)V" } : Jvm.MethodName) prog_98_method_3_code (2 : Nat) (Option.none : Option Jvm.ClassFile.FieldType), Jvm.Cond.code ({ cls := "com/example/nearfield/nearfield/job/RankedReads", name := "passedAll", desc := "()Z" } : Jvm.MethodName) prog_98_method_10_code (1 : Nat) (Option.some Jvm.ClassFile.FieldType.boolean)]
set_option maxRecDepth 65536 in
theorem codes_eq : words1.filter isCode = codes1 := rfl
theorem w_codes : ∀ c ∈ words1.filter isCode, c.before args0 about1 = true := by
  rw [codes_eq]
  intro c hc
  simp only [codes1, List.mem_cons, List.not_mem_nil, or_false] at hc
  rcases hc with rfl | rfl | rfl | rfl | rfl | rfl | rfl | rfl | rfl | rfl | rfl | rfl | rfl | rfl | rfl | rfl | rfl | rfl | rfl | rfl | rfl | rfl | rfl | rfl | rfl | rfl | rfl
  · exact w_c0
  · exact w_c1
  · exact w_c2
  · exact w_c3
  · exact w_c4
  · exact w_c5
  · exact w_c6
  · exact w_c7
  · exact w_c8
  · exact w_c9
  · exact w_c10
  · exact w_c11
  · exact w_c12
  · exact w_c13
  · exact w_c14
  · exact w_c15
  · exact w_c16
  · exact w_c17
  · exact w_c18
  · exact w_c19
  · exact w_c20
  · exact w_c21
  · exact w_c22
  · exact w_c23
  · exact w_c24
  · exact w_c25
  · exact w_c26
set_option maxRecDepth 65536 in
theorem w_t1 : (words1.take 24).all (fun c => isCode c || c.before args0 about1) = true := by decide +kernel
set_option maxRecDepth 65536 in
theorem w_t2 : ((words1.drop 24).take 24).all (fun c => isCode c || c.before args0 about1) = true := by decide +kernel
set_option maxRecDepth 65536 in
theorem w_t3 : (((words1.drop 24).drop 24).take 24).all (fun c => isCode c || c.before args0 about1) = true := by decide +kernel
set_option maxRecDepth 65536 in
theorem w_t4 : ((((words1.drop 24).drop 24).drop 24).take 24).all (fun c => isCode c || c.before args0 about1) = true := by decide +kernel
set_option maxRecDepth 65536 in
theorem w_t5 : (((((words1.drop 24).drop 24).drop 24).drop 24).take 24).all (fun c => isCode c || c.before args0 about1) = true := by decide +kernel
set_option maxRecDepth 65536 in
theorem w_t6 : ((((((words1.drop 24).drop 24).drop 24).drop 24).drop 24).take 24).all (fun c => isCode c || c.before args0 about1) = true := by decide +kernel
set_option maxRecDepth 65536 in
theorem w_t7 : ((((((words1.drop 24).drop 24).drop 24).drop 24).drop 24).drop 24).all (fun c => isCode c || c.before args0 about1) = true := by decide +kernel
theorem w_tables : (allAtoms (Jvm.Cond.code x code maxLocals ret :: tables_1)).before args0 about1 = true := by
  rw [allAtoms_all]
  show words1.all (fun c => c.before args0 about1) = true
  refine all_split ?_ w_codes
  rw [← List.take_append_drop 24 words1, List.all_append, w_t1, ← List.take_append_drop 24 (words1.drop 24), List.all_append, w_t2, ← List.take_append_drop 24 ((words1.drop 24).drop 24), List.all_append, w_t3, ← List.take_append_drop 24 (((words1.drop 24).drop 24).drop 24), List.all_append, w_t4, ← List.take_append_drop 24 ((((words1.drop 24).drop 24).drop 24).drop 24), List.all_append, w_t5, ← List.take_append_drop 24 (((((words1.drop 24).drop 24).drop 24).drop 24).drop 24), List.all_append, w_t6, w_t7]
  rfl
set_option maxRecDepth 65536 in
theorem w_case : (Jvm.Cond.and given_1 narrow_1).before args0 about1 = true := by decide +kernel
theorem w_applies : (headSpec (Jvm.Cond.code x code maxLocals ret :: tables_1) room_1).applies x e0.platform about1 = true :=
  (Spec.applies_iff w_frames).mpr ⟨w_running, w_runnable, w_alone, w_named, w_hears, w_ripe, w_room, w_tables⟩
theorem atStart : AtStart classFile x code maxLocals ret World_1 tables_1 room_1 Calls_1 rest_1 Pre_1 launch0 p0 e0 about1 theMethod args0 below0 :=
  ⟨lists_1, trivial, launch0.admits_env _ _ _, launch0.least_env, fairChoices_fair.cas, fairChoices_fair.clock, w_frames, w_args, w_heap, w_applies, trivial, trivial, w_case⟩
end start1
theorem witness_1 : WitnessClaimed_1 := ⟨start1.p0, start1.e0, start1.about1, start1.theMethod, start1.args0, start1.below0, start1.atStart⟩
end Jvm.Pilot.@@N@@
