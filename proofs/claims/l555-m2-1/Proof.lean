
import JvmDerived
import JvmDerived.Pilot.@@N@@Statement
import JvmDerived.Pilot.@@N@@Code
set_option linter.unusedVariables false
set_option linter.unusedSimpArgs false
namespace Jvm.Pilot.@@N@@
open Jvm Jvm.ClassFile Sem Op Lib Jvm.Free Jvm.Stand Jvm.LawKit Jvm.RoadKit Bundle Jvm.Pilot.@@N@@.Jvm.D
section OwnKit
variable {p : Program} {l : Launch} {e : Env} {R : Room} {s : State} {m : MethodId} {args : Array Value} {below : List Frame} {meth : Method} {c : Code} {T : State} {locs : List Loc} {cells slots : Nat} {Z : State} {a0 : Array Value} {h : Heap}
/-- from S the body comes to its end, and P holds of it -/
def Gd (tb : Tables) (e : Env) (below : List Frame) (P : Outcome → State → Prop) (S : State) : Prop := ∃ s₂ o, Steps tb e below S s₂ ∧ s₂.status = .running ∧ Ended s₂ below o ∧ P o s₂
theorem Gd.go {tb : Tables} {e : Env} {below : List Frame} {P : Outcome → State → Prop} {S S' : State} (h : ∀ t, Steps tb e below S' t → Steps tb e below S t) (k : Gd tb e below P S') : Gd tb e below P S := by
  obtain ⟨s₂, o, h1, h2⟩ := k
  exact ⟨s₂, o, h _ h1, h2⟩
theorem Gd.viaA {α : Type} {A : α → Prop} {tb : Tables} {e : Env} {below : List Frame} {P : Outcome → State → Prop} {S : State} {S' : α → State} (h : (∀ z, A z → Gd tb e below P (S' z)) → Gd tb e below P S) (k : ∀ z, A z → Gd tb e below P (S' z)) : Gd tb e below P S := h k
/-- a body's contract: called with these arguments over this heap it returns, Q holds, and so many cells and slots at most are new -/
def Con (l : Launch) (Z : State) (y : MethodName) (bytes : ByteArray) (maxL : Nat) (ret : Option FieldType) (ws : List Jvm.Cond) (rm : Room) (kc ks : Nat) (as' : Array Value) (h : Heap) (Q : Option Value → Heap → List Loc → Prop) : Prop :=
  MetFree l y (head1 (Jvm.Cond.code y bytes maxL ret :: ws) rm) (fun a U => a = as' ∧ Z.Warmed39 U.vm ∧ U.heap = h) (fun _ _ _ _ _ => True) (fun _ U o U' => ∃ v L, o = .returned v ∧ Q v U'.heap L ∧ FrameEnd U o U' L kc ks)
/-- what a body's walk owes -/
abbrev Owes (s : State) (kc ks : Nat) (Q : Option Value → Heap → List Loc → Prop) : Outcome → State → Prop := fun o U' => ∃ v L, o = .returned v ∧ Q v U'.heap L ∧ FrameEnd s o U' L kc ks
theorem Con.of {y : MethodName} {bytes : ByteArray} {maxL : Nat} {ret : Option FieldType} {ws : List Jvm.Cond} {rm : Room} {kc ks : Nat} {as' : Array Value} {Q : Option Value → Heap → List Loc → Prop} (hpn : plainFor y = true)
    (body : ∀ (p : Program) (e : Env) (s : State) (m : MethodId) (below : List Frame) (meth : Method) (c : Code) (s₁ : State), p.tables.exec = Jvm.exec → c.code = bytes → c.maxLocals = maxL → s.vm.findClass y.cls = some m.cls → meth.name = y.name → meth.sig.returnType = ret → meth.locks = false → Z.Warmed39 s.vm →
      Stand p l e rm s m as' below meth c s₁ [] 0 0 → s₁.heap = h → Gd p.tables e below (Owes s kc ks Q) (s₁.setTop (entryFrame m as' maxL))) : Con l Z y bytes maxL ret ws rm kc ks as' h Q := by
  refine MetFree.of_bodySF hpn hisR ?_
  intro p e s m args below meth c s₁ Bd hml0 hP hK
  obtain ⟨rfl, hZ, hh⟩ := hP
  exact body p e s m below meth c s₁ Bd.exec Bd.bytes hml0 (findClass_of_methodNamed Bd.named) (name_of_methodNamed Bd.named Bd.method).1 Bd.returns Bd.notSynchronized hZ (Stand.of_body Bd) (by rw [← hh, Bd.state]; rfl)
theorem own_retI (X : Stand p l e R s m args below meth c T locs cells slots) (hx : p.tables.exec = Jvm.exec) {pc : Nat} {Ls : Array Slot} {z : Int32} {rest : List Value} (hret : meth.sig.returnType = some .int) (hlk : meth.locks = false) (hd : decode c.code pc = .ok (.ireturn, 1)) {Q : Option Value → Heap → List Loc → Prop} {kc ks : Nat} (hq : Q (some (.int z)) T.heap locs) (hc : cells ≤ kc) (hs : slots ≤ ks) :
    Gd p.tables e below (Owes s kc ks Q) (T.setTop (mkF m pc Ls (.int z :: rest))) := by
  obtain ⟨fs, hr, hrun, hended, hW, hsame⟩ := X.leave (v := some (.int z)) (fun h => by rw [hret] at h; cases h) hlk
  have hm' : T.vm.method? m = some meth := X.method'
  have hn : narrow .int (.int z) = .int z := rfl
  refine ⟨_, _, ?_, hrun, hended, _, _, rfl, hq, ⟨_, rfl⟩, hW, hsame.mono hc hs⟩
  show Steps p.tables e below (T.setTop { method := m, pc := pc, locals := Ls, stack := _ :: rest, locked := none }) _
  jvm_step X.here [X.here.top, hx, hd, hm', hret, hn]
  first | (intro acts; rw [hr _ acts rfl rfl rfl]) | rw [hr _ _ rfl rfl rfl]
  exact Steps.refl _
theorem own_retN (X : Stand p l e R s m args below meth c T locs cells slots) (hx : p.tables.exec = Jvm.exec) {pc : Nat} {Ls : Array Slot} {z : Int32} {rest : List Value} {t : FieldType} (hret : meth.sig.returnType = some t) (hlk : meth.locks = false) (ht : t = .boolean ∨ t = .byte ∨ t = .char ∨ t = .short) (hd : decode c.code pc = .ok (.ireturn, 1)) {Q : Option Value → Heap → List Loc → Prop} {kc ks : Nat} (hq : Q (some (.int (nar t z))) T.heap locs) (hc : cells ≤ kc) (hs : slots ≤ ks) :
    Gd p.tables e below (Owes s kc ks Q) (T.setTop (mkF m pc Ls (.int z :: rest))) := by
  obtain ⟨fs, hr, hrun, hended, hW, hsame⟩ := X.leave (v := some (.int (nar t z))) (fun h => by rw [hret] at h; cases h) hlk
  exact ⟨_, _, retN X hx hret ht hd hr, hrun, hended, _, _, rfl, hq, ⟨_, rfl⟩, hW, hsame.mono hc hs⟩
theorem own_retV (X : Stand p l e R s m args below meth c T locs cells slots) (hx : p.tables.exec = Jvm.exec) {pc : Nat} {Ls : Array Slot} (hret : meth.sig.returnType = none) (hlk : meth.locks = false) (hd : decode c.code pc = .ok (.return_, 1)) {Q : Option Value → Heap → List Loc → Prop} {kc ks : Nat} (hq : Q none T.heap locs) (hc : cells ≤ kc) (hs : slots ≤ ks) :
    Gd p.tables e below (Owes s kc ks Q) (T.setTop (mkF m pc Ls [])) := by
  obtain ⟨fs, hr, hrun, hended, hW, hsame⟩ := X.leave (v := none) (fun _ => rfl) hlk
  exact ⟨_, _, X.returnOut hx hret hd hr, hrun, hended, _, _, rfl, hq, ⟨_, rfl⟩, hW, hsame.mono hc hs⟩
theorem own_retA (X : Stand p l e R s m args below meth c T locs cells slots) (hx : p.tables.exec = Jvm.exec) {pc : Nat} {Ls : Array Slot} {a : Addr} {rest : List Value} {t : FieldType} (hret : meth.sig.returnType = some t) (hlk : meth.locks = false) (ht : t.isReference = true) (hd : decode c.code pc = .ok (.areturn, 1)) {Q : Option Value → Heap → List Loc → Prop} {kc ks : Nat} (hq : Q (some (.ref a)) T.heap locs) (hc : cells ≤ kc) (hs : slots ≤ ks) :
    Gd p.tables e below (Owes s kc ks Q) (T.setTop (mkF m pc Ls (.ref a :: rest))) := by
  obtain ⟨fs, hr, hrun, hended, hW, hsame⟩ := X.leave (v := some (.ref a)) (fun h => by rw [hret] at h; cases h) hlk
  have hm' : T.vm.method? m = some meth := X.method'
  refine ⟨_, _, ?_, hrun, hended, _, _, rfl, hq, ⟨_, rfl⟩, hW, hsame.mono hc hs⟩
  show Steps p.tables e below (T.setTop { method := m, pc := pc, locals := Ls, stack := _ :: rest, locked := none }) _
  jvm_step X.here [X.here.top, hx, hd, hm', hret, ht, Value.isRef]
  first | (intro acts; rw [hr _ acts rfl rfl rfl]) | rw [hr _ _ rfl rfl rfl]
  exact Steps.refl _
/-- a static call by its contract -/
theorem own_callS (X : Stand p l e R s m args below meth c T locs cells slots) (hx : p.tables.exec = Jvm.exec) (hZ : Z.Warmed39 s.vm) {own : String} {index : Nat} {y : MethodName} {bytes : ByteArray} {maxL : Nat} {ret : Option FieldType} (hown : s.vm.findClass own = some m.cls)
    (w1 : (Jvm.Cond.methodLink own index y).before a0 Z = true) (w2 : (Jvm.Cond.static y).before a0 Z = true) (w3 : (Jvm.Cond.initialized y.cls).before a0 Z = true) (w4 : (Jvm.Cond.code y bytes maxL ret).before a0 Z = true) (hy : y.cls ≠ "java/lang/invoke/MethodHandle" ∧ y.cls ≠ "java/lang/invoke/VarHandle")
    {rm : Room} {as' : Array Value} {Q : Option Value → Heap → List Loc → Prop} {W kc ks : Nat} (hM : Con l Z y bytes maxL ret [] rm kc ks as' h Q) (hkc : rm.cells = kc) (hks : rm.slots = ks) (eT : T.heap = h) (hf : rm.frames + 1 ≤ R.frames) (hl : W + (maxL + 11) + rm.locals ≤ R.locals)
    {g : JFrame} (hg : g.method = m) (hsize : g.locals.size = c.maxLocals) {argsL rest : List Value} (hlen : ∀ sig, parseMethodDescriptor y.desc = some sig → argsL.length = sig.parameters.length) (hstack : g.stack = argsL.reverse ++ rest) (hW : 2 * g.monitorRoom + (rest.map fun v => v.category).sum ≤ W)
    (hdg : decode c.code g.pc = .ok (.invokestatic index, 3)) (has : argsL.toArray = as') (hc : cells + kc ≤ R.cells) (hs : slots + ks ≤ R.slots) :
    ∃ v T' L, Stand p l e R s m args below meth c T' (locs ++ L) (cells + kc) (slots + ks) ∧ Q v T'.heap L ∧ ∀ target, Steps p.tables e below (T'.setTop { g with pc := g.pc + 3, stack := v.toList ++ rest }) target → Steps p.tables e below (T.setTop g) target := by
  subst hkc hks
  obtain ⟨v, vm₁, ⟨T', L', c', s'⟩, -, X', ⟨L, hq, l1, l2, l3⟩, st⟩ := Jvm.LawKit.callS X hx (y := y) hown (mvT hZ w1) (mvT hZ w2) (mvT hZ w3) (mvT hZ w4) hy (backOf (W := W) hM hZ w4 w3 hf hl) hg hsize (argsL := argsL) (rest := rest) hlen hstack hW hdg (fun _ _ => ⟨has, eT, hc, hs⟩)
  dsimp only [Pt.U, Pt.locs, Pt.cells, Pt.slots] at X' l1 l2 l3 st hq
  subst l1 l2 l3
  exact ⟨v, T', L, X', hq, st⟩
/-- a static call that writes and makes nothing -/
theorem own_callSP (X : Stand p l e R s m args below meth c T locs cells slots) (hx : p.tables.exec = Jvm.exec) (hZ : Z.Warmed39 s.vm) {own : String} {index : Nat} {y : MethodName} {bytes : ByteArray} {maxL : Nat} {ret : Option FieldType} (hown : s.vm.findClass own = some m.cls)
    (w1 : (Jvm.Cond.methodLink own index y).before a0 Z = true) (w2 : (Jvm.Cond.static y).before a0 Z = true) (w3 : (Jvm.Cond.initialized y.cls).before a0 Z = true) (w4 : (Jvm.Cond.code y bytes maxL ret).before a0 Z = true) (hy : y.cls ≠ "java/lang/invoke/MethodHandle" ∧ y.cls ≠ "java/lang/invoke/VarHandle")
    {rm : Room} {as' : Array Value} {v : Option Value} {W : Nat} (hM : Con l Z y bytes maxL ret [] rm 0 0 as' h (fun v' h' L => v' = v ∧ h' = h ∧ L = [])) (hkc : rm.cells = 0) (hks : rm.slots = 0) (eT : T.heap = h) (hf : rm.frames + 1 ≤ R.frames) (hl : W + (maxL + 11) + rm.locals ≤ R.locals)
    {g : JFrame} (hg : g.method = m) (hsize : g.locals.size = c.maxLocals) {argsL rest : List Value} (hlen : ∀ sig, parseMethodDescriptor y.desc = some sig → argsL.length = sig.parameters.length) (hstack : g.stack = argsL.reverse ++ rest) (hW : 2 * g.monitorRoom + (rest.map fun v => v.category).sum ≤ W)
    (hdg : decode c.code g.pc = .ok (.invokestatic index, 3)) (has : argsL.toArray = as') (hc : cells ≤ R.cells := by decide) (hs : slots ≤ R.slots := by decide) :
    ∃ T', Stand p l e R s m args below meth c T' locs cells slots ∧ T'.heap = h ∧ ∀ target, Steps p.tables e below (T'.setTop { g with pc := g.pc + 3, stack := v.toList ++ rest }) target → Steps p.tables e below (T.setTop g) target := by
  obtain ⟨v', T', L, X', ⟨e1, e2, e3⟩, st⟩ := own_callS X hx hZ hown w1 w2 w3 w4 hy hM hkc hks eT hf hl hg hsize hlen hstack hW hdg has hc hs
  subst e1 e3
  rw [List.append_nil] at X'
  exact ⟨T', X', e2, st⟩
/-- an instance method by its contract, chosen by the receiver's class -/
theorem own_callV (X : Stand p l e R s m args below meth c T locs cells slots) (hx : p.tables.exec = Jvm.exec) (hZ : Z.Warmed39 s.vm) {own C : String} {index : Nat} {y : MethodName} {bytes : ByteArray} {maxL : Nat} {ret : Option FieldType} (hown : s.vm.findClass own = some m.cls)
    (w1 : (Jvm.Cond.methodLink own index y).before a0 Z = true) (w2 : (Jvm.Cond.declares y).before a0 Z = true) (w3 : (Jvm.Cond.selects C y y).before a0 Z = true) (w4 : (Jvm.Cond.instanceMethod y).before a0 Z = true) (w5 : (Jvm.Cond.initialized y.cls).before a0 Z = true) (w6 : (Jvm.Cond.code y bytes maxL ret).before a0 Z = true) (hy : y.cls ≠ "java/lang/invoke/MethodHandle" ∧ y.cls ≠ "java/lang/invoke/VarHandle")
    {b : Addr} (E : Exa Z h b C) {rm : Room} {as' : Array Value} {Q : Option Value → Heap → List Loc → Prop} {W kc ks : Nat} (hM : Con l Z y bytes maxL ret [] rm kc ks as' h Q) (hkc : rm.cells = kc) (hks : rm.slots = ks) (eT : T.heap = h) (hf : rm.frames + 1 ≤ R.frames) (hl : W + (maxL + 11) + rm.locals ≤ R.locals)
    {g : JFrame} (hg : g.method = m) (hsize : g.locals.size = c.maxLocals) {argsL rest : List Value} (hlen : ∀ sig, parseMethodDescriptor y.desc = some sig → argsL.length = sig.parameters.length) (hstack : g.stack = argsL.reverse ++ .ref b :: rest) (hW : 2 * g.monitorRoom + (rest.map fun v => v.category).sum ≤ W)
    (hdg : decode c.code g.pc = .ok (.invokevirtual index, 3)) (has : (.ref b :: argsL).toArray = as') (hc : cells + kc ≤ R.cells) (hs : slots + ks ≤ R.slots) :
    ∃ v T' L, Stand p l e R s m args below meth c T' (locs ++ L) (cells + kc) (slots + ks) ∧ Q v T'.heap L ∧ ∀ target, Steps p.tables e below (T'.setTop { g with pc := g.pc + 3, stack := v.toList ++ rest }) target → Steps p.tables e below (T.setTop g) target := by
  subst hkc hks
  obtain ⟨cq, kq, qa, qb, qc⟩ := isOf hZ eT E
  obtain ⟨v, vm₁, ⟨T', L', c', s'⟩, -, X', ⟨L, hq, l1, l2, l3⟩, st⟩ := X.virtualBack hx (y := y) (z := y) hown (mvT hZ w1) (mvT hZ w2) (notFace_of_selects (args := #[]) (mvT hZ w3)) (mvT hZ w3) (mvT hZ w4) hy (backOf (W := W) hM hZ w6 w5 hf hl) qa qc hg hsize (Steps.refl _) (argsL := argsL) (rest := rest) hlen hstack hW hdg (fun _ _ => ⟨has, eT, hc, hs⟩)
  dsimp only [Pt.U, Pt.locs, Pt.cells, Pt.slots] at X' l1 l2 l3 st hq
  subst l1 l2 l3
  exact ⟨v, T', L, X', hq, fun _ k => st.trans k⟩
/-- an instance method that writes and makes nothing -/
theorem own_callVP (X : Stand p l e R s m args below meth c T locs cells slots) (hx : p.tables.exec = Jvm.exec) (hZ : Z.Warmed39 s.vm) {own C : String} {index : Nat} {y : MethodName} {bytes : ByteArray} {maxL : Nat} {ret : Option FieldType} (hown : s.vm.findClass own = some m.cls)
    (w1 : (Jvm.Cond.methodLink own index y).before a0 Z = true) (w2 : (Jvm.Cond.declares y).before a0 Z = true) (w3 : (Jvm.Cond.selects C y y).before a0 Z = true) (w4 : (Jvm.Cond.instanceMethod y).before a0 Z = true) (w5 : (Jvm.Cond.initialized y.cls).before a0 Z = true) (w6 : (Jvm.Cond.code y bytes maxL ret).before a0 Z = true) (hy : y.cls ≠ "java/lang/invoke/MethodHandle" ∧ y.cls ≠ "java/lang/invoke/VarHandle")
    {b : Addr} (E : Exa Z h b C) {rm : Room} {as' : Array Value} {v : Option Value} {W : Nat} (hM : Con l Z y bytes maxL ret [] rm 0 0 as' h (fun v' h' L => v' = v ∧ h' = h ∧ L = [])) (hkc : rm.cells = 0) (hks : rm.slots = 0) (eT : T.heap = h) (hf : rm.frames + 1 ≤ R.frames) (hl : W + (maxL + 11) + rm.locals ≤ R.locals)
    {g : JFrame} (hg : g.method = m) (hsize : g.locals.size = c.maxLocals) {argsL rest : List Value} (hlen : ∀ sig, parseMethodDescriptor y.desc = some sig → argsL.length = sig.parameters.length) (hstack : g.stack = argsL.reverse ++ .ref b :: rest) (hW : 2 * g.monitorRoom + (rest.map fun v => v.category).sum ≤ W)
    (hdg : decode c.code g.pc = .ok (.invokevirtual index, 3)) (has : (.ref b :: argsL).toArray = as') (hc : cells ≤ R.cells := by decide) (hs : slots ≤ R.slots := by decide) :
    ∃ T', Stand p l e R s m args below meth c T' locs cells slots ∧ T'.heap = h ∧ ∀ target, Steps p.tables e below (T'.setTop { g with pc := g.pc + 3, stack := v.toList ++ rest }) target → Steps p.tables e below (T.setTop g) target := by
  obtain ⟨v', T', L, X', ⟨e1, e2, e3⟩, st⟩ := own_callV X hx hZ hown w1 w2 w3 w4 w5 w6 hy E hM hkc hks eT hf hl hg hsize hlen hstack hW hdg has hc hs
  subst e1 e3
  rw [List.append_nil] at X'
  exact ⟨T', X', e2, st⟩
/-- a constructor by its contract -/
theorem own_callI (X : Stand p l e R s m args below meth c T locs cells slots) (hx : p.tables.exec = Jvm.exec) (hZ : Z.Warmed39 s.vm) {own : String} {index : Nat} {y : MethodName} {bytes : ByteArray} {maxL : Nat} (hy1 : y.name = "<init>") (hown : s.vm.findClass own = some m.cls)
    (w1 : (Jvm.Cond.methodLink own index y).before a0 Z = true) (w4 : (Jvm.Cond.instanceMethod y).before a0 Z = true) (w5 : (Jvm.Cond.initialized y.cls).before a0 Z = true) (w6 : (Jvm.Cond.code y bytes maxL none).before a0 Z = true) (hy : y.cls ≠ "java/lang/invoke/MethodHandle" ∧ y.cls ≠ "java/lang/invoke/VarHandle")
    {b : Addr} {rm : Room} {as' : Array Value} {Q : Option Value → Heap → List Loc → Prop} {W kc ks : Nat} (hM : Con l Z y bytes maxL none [] rm kc ks as' h Q) (hkc : rm.cells = kc) (hks : rm.slots = ks) (eT : T.heap = h) (hf : rm.frames + 1 ≤ R.frames) (hl : W + (maxL + 11) + rm.locals ≤ R.locals)
    {g : JFrame} (hg : g.method = m) (hsize : g.locals.size = c.maxLocals) {argsL rest : List Value} (hlen : ∀ sig, parseMethodDescriptor y.desc = some sig → argsL.length = sig.parameters.length) (hstack : g.stack = argsL.reverse ++ .ref b :: rest) (hW : 2 * g.monitorRoom + (rest.map fun v => v.category).sum ≤ W)
    (hdg : decode c.code g.pc = .ok (.invokespecial index, 3)) (has : (.ref b :: argsL).toArray = as') (hc : cells + kc ≤ R.cells) (hs : slots + ks ≤ R.slots) :
    ∃ v T' L, Stand p l e R s m args below meth c T' (locs ++ L) (cells + kc) (slots + ks) ∧ Q v T'.heap L ∧ ∀ target, Steps p.tables e below (T'.setTop { g with pc := g.pc + 3, stack := v.toList ++ rest }) target → Steps p.tables e below (T.setTop g) target := by
  subst hkc hks
  obtain ⟨v, vm₁, ⟨T', L', c', s'⟩, -, X', ⟨L, hq, l1, l2, l3⟩, st⟩ := X.specialBack hx (y := y) hy1 hown (mvT hZ w1) (mvT hZ w4) (mvT hZ w6) hy (backOf (W := W) hM hZ w6 w5 hf hl) hg hsize (Steps.refl _) (a := b) (argsL := argsL) (rest := rest) hlen hstack hW hdg (fun _ _ => ⟨has, eT, hc, hs⟩)
  dsimp only [Pt.U, Pt.locs, Pt.cells, Pt.slots] at X' l1 l2 l3 st hq
  subst l1 l2 l3
  exact ⟨v, T', L, X', hq, fun _ k => st.trans k⟩
/-- an array as a function of its places -/
def ArF (Z : State) (h : Heap) (a : Addr) (ty : FieldType) (n : Nat) (f : Nat → Value) : Prop := ∃ c : Cell, Arr Z h a c ty ∧ c.slots.size = n ∧ n < 2 ^ 31 ∧ ∀ i, i < n → c.slots[i]? = some (f i)
def upd (f : Nat → Value) (j : Nat) (v : Value) : Nat → Value := fun i => if i = j then v else f i
theorem upd_at (f : Nat → Value) (j : Nat) (v : Value) : upd f j v j = v := if_pos rfl
theorem upd_ne (f : Nat → Value) {i j : Nat} (v : Value) (q : ¬ i = j) : upd f j v i = f i := if_neg q
theorem ArF.lt {h : Heap} {a : Addr} {ty : FieldType} {n : Nat} {f : Nat → Value} (F : ArF Z h a ty n f) : a < h.size := by obtain ⟨c, A, -⟩ := F; exact A.lt
theorem ArF.ext {h h' : Heap} {a : Addr} {ty : FieldType} {n : Nat} {f : Nat → Value} (F : ArF Z h a ty n f) (E : Ext h h') : ArF Z h' a ty n f := by obtain ⟨c, A, r⟩ := F; exact ⟨c, A.ext E, r⟩
theorem ArF.other {h h' : Heap} {a b : Addr} {ty : FieldType} {n : Nat} {f : Nat → Value} {sl : Nat} {v : Value} (F : ArF Z h b ty n f) (W : Wr h h' a sl v) (q : b ≠ a) : ArF Z h' b ty n f := by obtain ⟨c, A, r⟩ := F; exact ⟨c, A.other W q, r⟩
theorem ArF.keep {h h' : Heap} {a : Addr} {ty : FieldType} {n : Nat} {f : Nat → Value} {ws : List Addr} (F : ArF Z h a ty n f) (K : Keep h h' ws) (q : a ∉ ws) : ArF Z h' a ty n f := by obtain ⟨c, A, r⟩ := F; exact ⟨c, ⟨K.2.1 a c A.1 q, A.2⟩, r⟩
theorem ArF.set {h h' : Heap} {a : Addr} {ty : FieldType} {n : Nat} {f : Nat → Value} {j : Nat} {v : Value} (F : ArF Z h a ty n f) (W : Wr h h' a j v) : ArF Z h' a ty n (upd f j v) := by
  obtain ⟨c, A, r1, r2, r3⟩ := F
  refine ⟨_, A.same W, by rw [sz_set]; exact r1, r2, fun i hi => ?_⟩
  show (c.slots.setIfInBounds j v)[i]? = _
  rw [Array.getElem?_setIfInBounds]
  by_cases q : j = i
  · subst q; rw [if_pos rfl, if_pos (by omega), upd_at]
  · rw [if_neg q, upd_ne _ _ (fun w => q w.symm)]; exact r3 i hi
theorem ArF.congr {h : Heap} {a : Addr} {ty : FieldType} {n : Nat} {f g : Nat → Value} (F : ArF Z h a ty n f) (q : ∀ i, i < n → f i = g i) : ArF Z h a ty n g := by
  obtain ⟨c, A, r1, r2, r3⟩ := F
  exact ⟨c, A, r1, r2, fun i hi => by rw [← q i hi]; exact r3 i hi⟩
theorem own_ofN {n : Nat} (h : n < 2 ^ 31) : (Int32.ofNat n).toInt = n := Int32.toInt_ofNat_small h
theorem own_ofC {n : Nat} (h : n < 2 ^ 31) : (Int32.ofNat n).toNatClampNeg = n := by show (Int32.ofNat n).toInt.toNat = n; rw [own_ofN h]; rfl
theorem own_ltN {i n : Nat} (h : i < n) (hn : n < 2 ^ 31) : Int32.ofNat i < Int32.ofNat n := by rw [Int32.lt_iff_toInt_lt, own_ofN (by omega), own_ofN hn]; omega
theorem own_geN {i n : Nat} (h : ¬ i < n) (hn : i < 2 ^ 31) : ¬ Int32.ofNat i < Int32.ofNat n := by rw [Int32.lt_iff_toInt_lt, own_ofN hn, own_ofN (by omega)]; omega
theorem own_incN (i : Nat) : Int32.ofNat i + (1 : Int32) = Int32.ofNat (i + 1) := (Int32.ofNat_add i 1).symm
theorem own_nat {j : Int32} (h : 0 ≤ j.toInt) : (j.toNatClampNeg : Int) = j.toInt := Int.toNat_of_nonneg h
theorem own_in {c : Cell} {n : Nat} {j : Int32} (S : c.slots.size = n) (h1 : 0 ≤ j.toInt) (h2 : j.toInt < n) : ¬ (j < 0 ∨ c.slots.size ≤ j.toNatClampNeg) := by
  have e : (j.toNatClampNeg : Int) = j.toInt := Int.toNat_of_nonneg h1
  rw [Int32.lt_iff_toInt_lt]
  have : (0 : Int32).toInt = 0 := rfl
  omega
theorem own_new {h h' : Heap} {k : ClassId} {ty : FieldType} {z : Int32} {a : Addr} (A : Arr Z h' a (newA k ty z) ty) (q : ¬ z < 0) : ArF Z h' a ty z.toNatClampNeg (fun _ => defaultValue ty) :=
  ⟨_, A, sz_new _ _ _, (back32 q).2, fun i hi => by simp [newA, hi]⟩
theorem own_ldB (X : Stand p l e R s m args below meth c T locs cells slots) (hx : p.tables.exec = Jvm.exec) (hZ : Z.Warmed39 s.vm) (eT : T.heap = h) {a : Addr} {n : Nat} {f : Nat → Value} (A : ArF Z h a .byte n f) {j : Int32} (h1 : 0 ≤ j.toInt) (h2 : j.toInt < n) {v : Value} (hv : f j.toNatClampNeg = v)
    {g : JFrame} (hg : g.method = m) {rest : List Value} (hs : g.stack = .int j :: .ref a :: rest) (hd : decode c.code g.pc = .ok (.baload, 1)) (target : State) (k : Steps p.tables e below (T.setTop { g with pc := g.pc + 1, stack := v :: rest }) target) : Steps p.tables e below (T.setTop g) target := by
  obtain ⟨cl, Ar, S, -, H⟩ := A
  exact X.baloadBytes hx (j := j) (v := v) (by rw [eT]; exact Ar.1) (State.isArrayOf_alike hZ.alike Ar.2.1) Ar.2.2 (own_in S h1 h2) (by have e := Int.toNat_of_nonneg h1; rw [← hv]; exact H _ (by show j.toInt.toNat < n; omega)) hg hs hd _ k
theorem own_ldC (X : Stand p l e R s m args below meth c T locs cells slots) (hx : p.tables.exec = Jvm.exec) (hZ : Z.Warmed39 s.vm) (eT : T.heap = h) {a : Addr} {n : Nat} {f : Nat → Value} (A : ArF Z h a .char n f) {j : Int32} (h1 : 0 ≤ j.toInt) (h2 : j.toInt < n) {v : Value} (hv : f j.toNatClampNeg = v)
    {g : JFrame} (hg : g.method = m) {rest : List Value} (hs : g.stack = .int j :: .ref a :: rest) (hd : decode c.code g.pc = .ok (.caload, 1)) (target : State) (k : Steps p.tables e below (T.setTop { g with pc := g.pc + 1, stack := v :: rest }) target) : Steps p.tables e below (T.setTop g) target := by
  obtain ⟨cl, Ar, S, -, H⟩ := A
  exact X.caload hx (j := j) (v := v) (by rw [eT]; exact Ar.1) (State.isArrayOf_alike hZ.alike Ar.2.1) Ar.2.2 (own_in S h1 h2) (by have e := Int.toNat_of_nonneg h1; rw [← hv]; exact H _ (by show j.toInt.toNat < n; omega)) hg hs hd _ k
theorem own_len (X : Stand p l e R s m args below meth c T locs cells slots) (hx : p.tables.exec = Jvm.exec) (hZ : Z.Warmed39 s.vm) (eT : T.heap = h) {a : Addr} {ty : FieldType} {n : Nat} {f : Nat → Value} (A : ArF Z h a ty n f) {z : Int32} (hz : Int32.ofNat n = z)
    {g : JFrame} (hg : g.method = m) {rest : List Value} (hs : g.stack = .ref a :: rest) (hd : decode c.code g.pc = .ok (.arraylength, 1)) (target : State) (k : Steps p.tables e below (T.setTop { g with pc := g.pc + 1, stack := .int z :: rest }) target) : Steps p.tables e below (T.setTop g) target := by
  obtain ⟨cl, Ar, S, -, H⟩ := A
  refine X.arraylength hx (by rw [eT]; exact Ar.1) (State.isArrayOf_alike hZ.alike Ar.2.1) hg hs hd _ ?_
  rw [S]; rw [← hz] at k; exact k
/-- a boolean as an int -/
def bI (P : Prop) [Decidable P] : Int32 := if P then 1 else 0
theorem bI_z {P : Prop} [Decidable P] (h : ¬ P) : bI P = 0 := if_neg h
theorem bI_o {P : Prop} [Decidable P] (h : P) : bI P = 1 := if_pos h
theorem bI_ne {P : Prop} [Decidable P] (h : P) : ¬ bI P = 0 := by rw [bI_o h]; decide
theorem nar_b {P : Prop} [Decidable P] : nar .boolean (bI P) = bI P := by unfold bI; split <;> rfl
end OwnKit
section OwnKit2
variable {p : Program} {l : Launch} {e : Env} {R : Room} {s : State} {m : MethodId} {args : Array Value} {below : List Frame} {meth : Method} {c : Code} {T : State} {locs : List Loc} {cells slots : Nat} {Z : State} {a0 : Array Value} {h : Heap}
theorem ArF.of_arv {h : Heap} {a : Addr} {k : ClassId} {ty : FieldType} {z : Int32} {vs : List Value} {dv : Value} (F : Arv Z h a k ty z vs dv) : ArF Z h a ty z.toNatClampNeg (fun i => vs.getD i dv) := by
  obtain ⟨c, A, -, r1, r2, H, -⟩ := F
  exact ⟨c, A, r1, (back32 r2).2, fun i hi => H i (by omega)⟩
end OwnKit2
section OwnKit3
variable {p : Program} {l : Launch} {e : Env} {R : Room} {s : State} {m : MethodId} {args : Array Value} {below : List Frame} {meth : Method} {c : Code} {T : State} {locs : List Loc} {cells slots : Nat} {Z : State} {a0 : Array Value} {h : Heap}
theorem own_stB (X : Stand p l e R s m args below meth c T locs cells slots) (hx : p.tables.exec = Jvm.exec) (hZ : Z.Warmed39 s.vm) (eT : T.heap = h) {a : Addr} {n : Nat} {f : Nat → Value} (A : ArF Z h a .byte n f) {j x : Int32} (h1 : 0 ≤ j.toInt) (h2 : j.toInt < n)
    {g : JFrame} (hg : g.method = m) {rest : List Value} (hs : g.stack = .int x :: .int j :: .ref a :: rest) (hd : decode c.code g.pc = .ok (.bastore, 1)) :
    ∃ T' h', Stand p l e R s m args below meth c T' (locs ++ [⟨a, j.toNatClampNeg⟩]) cells slots ∧ T'.heap = h' ∧ Wr h h' a j.toNatClampNeg (.int (nar .byte x)) ∧ ∀ target, Steps p.tables e below (T'.setTop { g with pc := g.pc + 1, stack := rest }) target → Steps p.tables e below (T.setTop g) target := by
  obtain ⟨cl, Ar, S, -, H⟩ := A
  exact stB X hx hZ eT Ar (own_in S h1 h2) hg hs hd
theorem own_stC (X : Stand p l e R s m args below meth c T locs cells slots) (hx : p.tables.exec = Jvm.exec) (hZ : Z.Warmed39 s.vm) (eT : T.heap = h) {a : Addr} {n : Nat} {f : Nat → Value} (A : ArF Z h a .char n f) {j x : Int32} (h1 : 0 ≤ j.toInt) (h2 : j.toInt < n)
    {g : JFrame} (hg : g.method = m) {rest : List Value} (hs : g.stack = .int x :: .int j :: .ref a :: rest) (hd : decode c.code g.pc = .ok (.castore, 1)) :
    ∃ T' h', Stand p l e R s m args below meth c T' (locs ++ [⟨a, j.toNatClampNeg⟩]) cells slots ∧ T'.heap = h' ∧ Wr h h' a j.toNatClampNeg (.int (nar .char x)) ∧ ∀ target, Steps p.tables e below (T'.setTop { g with pc := g.pc + 1, stack := rest }) target → Steps p.tables e below (T.setTop g) target := by
  obtain ⟨cl, Ar, S, -, H⟩ := A
  exact stC X hx hZ eT Ar (own_in S h1 h2) hg hs hd
end OwnKit3
section OwnKit5
variable {p : Program} {l : Launch} {e : Env} {R : Room} {s : State} {m : MethodId} {args : Array Value} {below : List Frame} {meth : Method} {c : Code} {T : State} {locs : List Loc} {cells slots : Nat} {Z : State} {a0 : Array Value} {h : Heap} {EL : List (String × Nat)} {vm0 : Vm}
/-- a contract of a body that may load literals -/
def ConW (l : Launch) (Z : State) (EL : List (String × Nat)) (y : MethodName) (bytes : ByteArray) (maxL : Nat) (ret : Option FieldType) (ws : List Jvm.Cond) (rm : Room) (kc ks : Nat) (as' : Array Value) (h : Heap) (Q : Option Value → Heap → List Loc → Prop) : Prop :=
  MetFree l y (head1 (Jvm.Cond.code y bytes maxL ret :: ws) rm) (fun a U => a = as' ∧ Z.Warmed39 U.vm ∧ U.heap = h ∧ CHv Z EL U.vm h) (fun _ _ _ _ _ => True) (fun _ U o U' => ∃ v L, o = .returned v ∧ Q v U'.heap L ∧ ReturnedEndW U o U' L kc ks)
abbrev OwesW (s : State) (kc ks : Nat) (Q : Option Value → Heap → List Loc → Prop) : Outcome → State → Prop := fun o U' => ∃ v L, o = .returned v ∧ Q v U'.heap L ∧ ReturnedEndW s o U' L kc ks
theorem ConW.of {y : MethodName} {bytes : ByteArray} {maxL : Nat} {ret : Option FieldType} {ws : List Jvm.Cond} {rm : Room} {kc ks : Nat} {as' : Array Value} {Q : Option Value → Heap → List Loc → Prop} (hpn : plainFor y = true)
    (body : ∀ (p : Program) (e : Env) (s : State) (m : MethodId) (below : List Frame) (meth : Method) (c : Code) (s₁ : State), p.tables.exec = Jvm.exec → c.code = bytes → c.maxLocals = maxL → s.vm.findClass y.cls = some m.cls → meth.name = y.name → meth.sig.returnType = ret → meth.locks = false → Z.Warmed39 s.vm →
      Stand p l e rm s m as' below meth c s₁ [] 0 0 → s₁.heap = h → s.heap = h ∧ CHv Z EL s.vm h → Gd p.tables e below (OwesW s kc ks Q) (s₁.setTop (entryFrame m as' maxL))) : ConW l Z EL y bytes maxL ret ws rm kc ks as' h Q := by
  refine MetFree.of_bodySF hpn hisR ?_
  intro p e s m args below meth c s₁ Bd hml0 hP hK
  obtain ⟨rfl, hZ, hh, hC⟩ := hP
  exact body p e s m below meth c s₁ Bd.exec Bd.bytes hml0 (findClass_of_methodNamed Bd.named) (name_of_methodNamed Bd.named Bd.method).1 Bd.returns Bd.notSynchronized hZ (Stand.of_body Bd) (by rw [← hh, Bd.state]; rfl) ⟨hh, hC⟩
theorem own_backH {y : MethodName} {bytes : ByteArray} {maxL : Nat} {ret : Option FieldType} {rm : Room} {len W : Nat} {as' : Array Value} {Q : Option Value → Heap → List Loc → Prop} (hM : ConW l Z EL y bytes maxL ret [] rm rm.cells rm.slots as' h Q)
    (hZ : Z.Warmed39 vm0) (wc : (Jvm.Cond.code y bytes maxL ret).before a0 Z = true) (wz : (Jvm.Cond.initialized y.cls).before a0 Z = true) (hf : rm.frames + 1 ≤ R.frames) (hl : W + (maxL + 11) + rm.locals ≤ R.locals) (hEL : EW Z a0 EL) (H : CHv Z EL vm0 h) :
    BackS l R p e below (s.setVm vm0) args y len W (fun A a => a = as' ∧ A.U.heap = h ∧ A.cells + rm.cells ≤ R.cells ∧ A.slots + rm.slots ≤ R.slots)
      (fun A _ v B => ∃ L, Q v B.U.heap L ∧ B.locs = A.locs ++ L ∧ B.cells = A.cells + rm.cells ∧ B.slots = A.slots + rm.slots) :=
  BackS.of_freeW (bytes := bytes) (maxL := maxL) (ret := ret) (E := fun _ first o t L k n => k = rm.cells ∧ n = rm.slots ∧ (∃ v, o = .returned v ∧ Q v t.heap L)) hM hf hl
    (fun m meth c A a Y hp => have hU : Z.Warmed39 A.U.vm := wtrans (s := s.setVm vm0) hZ Y.warmed
      ⟨by show (Cond.and _ .tt).before a A.U = true; rw [Cond.before_and, mv hU wc]; rfl, mv hU wc, mv hU wz, hp.2.2.1, hp.2.2.2⟩)
    (fun m meth c A a g mk Y hp => ⟨hp.1, wtrans (s := s.setVm vm0) hZ Y.warmed, hp.2.1, (CHv.at Y hZ hEL H).1⟩) (fun _ _ _ _ _ _ _ _ _ => trivial)
    (fun _ _ _ _ ⟨v, L, h1, h2, h4⟩ => ⟨L, _, _, h4, rfl, rfl, v, h1, h2⟩)
    (fun m meth c A a g mk v t L k n Y hp _ _ ⟨e1, e2, v', e3, e4⟩ => by cases e3; subst e1 e2; exact ⟨L, e4, rfl, rfl, rfl⟩)
/-- a constructor that may load literals -/
theorem own_callIW (X : Stand p l e R s m args below meth c T locs cells slots) (hx : p.tables.exec = Jvm.exec) (hZ : Z.Warmed39 s.vm) {own : String} {index : Nat} {y : MethodName} {bytes : ByteArray} {maxL : Nat} (hy1 : y.name = "<init>") (hown : s.vm.findClass own = some m.cls)
    (w1 : (Jvm.Cond.methodLink own index y).before a0 Z = true) (w4 : (Jvm.Cond.instanceMethod y).before a0 Z = true) (w5 : (Jvm.Cond.initialized y.cls).before a0 Z = true) (w6 : (Jvm.Cond.code y bytes maxL none).before a0 Z = true) (hy : y.cls ≠ "java/lang/invoke/MethodHandle" ∧ y.cls ≠ "java/lang/invoke/VarHandle")
    {b : Addr} {rm : Room} {as' : Array Value} {Q : Option Value → Heap → List Loc → Prop} {W kc ks : Nat} (hM : ConW l Z EL y bytes maxL none [] rm kc ks as' h Q) (hkc : rm.cells = kc) (hks : rm.slots = ks) (hEL : EW Z a0 EL) (H : CHv Z EL s.vm h) (eT : T.heap = h) (hf : rm.frames + 1 ≤ R.frames) (hl : W + (maxL + 11) + rm.locals ≤ R.locals)
    {g : JFrame} (hg : g.method = m) (hsize : g.locals.size = c.maxLocals) {argsL rest : List Value} (hlen : ∀ sig, parseMethodDescriptor y.desc = some sig → argsL.length = sig.parameters.length) (hstack : g.stack = argsL.reverse ++ .ref b :: rest) (hW : 2 * g.monitorRoom + (rest.map fun v => v.category).sum ≤ W)
    (hdg : decode c.code g.pc = .ok (.invokespecial index, 3)) (has : (.ref b :: argsL).toArray = as') (hc : cells + kc ≤ R.cells) (hs : slots + ks ≤ R.slots) :
    ∃ v T' L, Stand p l e R (s.setVm T'.vm) m args below meth c T' (locs ++ L) (cells + kc) (slots + ks) ∧ s.Since T'.vm T'.heap.size ∧ Z.Warmed39 (s.setVm T'.vm).vm ∧ (s.setVm T'.vm).vm.findClass own = some m.cls ∧ Q v T'.heap L ∧ ∀ target, Steps p.tables e below (T'.setTop { g with pc := g.pc + 3, stack := v.toList ++ rest }) target → Steps p.tables e below (T.setTop g) target := by
  subst hkc hks
  obtain ⟨v, vm₁, ⟨T', L', c', s'⟩, -, X', hS, hgr, ⟨L, hq, l1, l2, l3⟩, st⟩ := X.specialBackS hx (y := y) hy1 hown (mvT hZ w1) (mvT hZ w4) (mvT hZ w6) hy (own_backH (s := s) (vm0 := s.vm) (W := W) hM hZ w6 w5 hf hl hEL H) hg hsize (Steps.refl _) (a := b) (argsL := argsL) (rest := rest) hlen hstack hW hdg (fun _ _ => ⟨has, eT, hc, hs⟩)
  dsimp only [Pt.U, Pt.locs, Pt.cells, Pt.slots] at X' l1 l2 l3 st hq hS hgr
  subst l1 l2 l3
  exact ⟨v, T', L, X', hS, State.Warmed39.trans hZ hS.1, (hS.1.alike.findClass _ _).trans hown, hq, fun _ k => st.trans k⟩
theorem own_retVW (X : Stand p l e R (s.setVm vm0) m args below meth c T locs cells slots) (hx : p.tables.exec = Jvm.exec) {k0 : Nat} (hS : s.Since vm0 k0) (hk : k0 ≤ T.heap.size) {pc : Nat} {Ls : Array Slot} (hret : meth.sig.returnType = none) (hlk : meth.locks = false) (hd : decode c.code pc = .ok (.return_, 1)) {Q : Option Value → Heap → List Loc → Prop} {kc ks : Nat} (hq : Q none T.heap locs) (hc : cells ≤ kc) (hs : slots ≤ ks) :
    Gd p.tables e below (OwesW s kc ks Q) (T.setTop (mkF m pc Ls [])) := by
  obtain ⟨fs, hr, hrun, hended, hend⟩ := X.leaveW hS hk (v := none) (fun _ => rfl) hlk
  exact ⟨_, _, X.returnOut hx hret hd hr, hrun, hended, _, _, rfl, hq, hend.1, hend.2.1, hend.2.2.1, hend.2.2.2.mono hc hs⟩
theorem own_retNW (X : Stand p l e R (s.setVm vm0) m args below meth c T locs cells slots) (hx : p.tables.exec = Jvm.exec) {k0 : Nat} (hS : s.Since vm0 k0) (hk : k0 ≤ T.heap.size) {pc : Nat} {Ls : Array Slot} {z : Int32} {rest : List Value} {t : FieldType} (hret : meth.sig.returnType = some t) (hlk : meth.locks = false) (ht : t = .boolean ∨ t = .byte ∨ t = .char ∨ t = .short) (hd : decode c.code pc = .ok (.ireturn, 1)) {Q : Option Value → Heap → List Loc → Prop} {kc ks : Nat} (hq : Q (some (.int (nar t z))) T.heap locs) (hc : cells ≤ kc) (hs : slots ≤ ks) :
    Gd p.tables e below (OwesW s kc ks Q) (T.setTop (mkF m pc Ls (.int z :: rest))) := by
  obtain ⟨fs, hr, hrun, hended, hend⟩ := X.leaveW hS hk (v := some (.int (nar t z))) (fun h => by rw [hret] at h; cases h) hlk
  exact ⟨_, _, retN X hx hret ht hd hr, hrun, hended, _, _, rfl, hq, hend.1, hend.2.1, hend.2.2.1, hend.2.2.2.mono hc hs⟩
end OwnKit5

theorem ow {Z : State} {a0 : Array Value} (hw : ∀ d ∈ tables_1, d.before a0 Z = true) (i : Nat) {d : Jvm.Cond} (h : tables_1[i]? = some d) : d.before a0 Z = true := hw d (List.mem_of_getElem? h)
def own_bt (c : Nat) : Int32 := (Int32.ofNat c).toInt8.toInt32
def own_lat (f : Nat → Nat) : Nat → Value := fun i => .int (own_bt (f i))
def own_hi (c : Nat) : Int32 := (Int32.ofNat c >>> ((8 : Int32) &&& 31)).toInt8.toInt32
def own_utf (f : Nat → Nat) : Nat → Value := fun k => .int (if k % 2 = 0 then own_bt (f (k / 2)) else own_hi (f (k / 2)))
def own_chs (f : Nat → Nat) : Nat → Value := fun i => .int (Int32.ofNat (f i))
def own_by (f : Nat → Nat) : Prop := ∀ i, f i < 65536
def own_G (Z : State) (cs : Int32) (gv : Value) : Prop := ¬ cs = 0 ∧ Sta Z Z.heap "java/lang/String" "COMPACT_STRINGS" "Z" (.int cs) ∧ Sta Z Z.heap "jdk/internal/util/Preconditions" "SIOOBE_FORMATTER" "Ljava/util/function/BiFunction;" gv ∧ gv.category = 1 ∧ Sta Z Z.heap "java/lang/StringUTF16" "$assertionsDisabled" "Z" (.int (1 : Int32)) ∧ Sta Z Z.heap "java/lang/StringUTF16" "HI_BYTE_SHIFT" "I" (.int (0 : Int32)) ∧ Sta Z Z.heap "java/lang/StringUTF16" "LO_BYTE_SHIFT" "I" (.int (8 : Int32))
def own_T (Z : State) (h : Heap) (k : Int32) (t V : Addr) (n : Nat) (F : Nat → Value) : Prop := Exa Z h t "java/lang/String" ∧ Fld Z h t "java/lang/String" "value" "[B" (.ref V) ∧ Fld Z h t "java/lang/String" "coder" "B" (.int k) ∧ ArF Z h V .byte n F
theorem own_sh0 (x : Int32) : x >>> ((0 : Int32) &&& 31) = x := by
  have e : ((0 : Int32) &&& 31) = 0 := by decide
  rw [e]; exact Int32.shiftRight_zero
theorem own_sh1 {n : Nat} (h : n < 2 ^ 29) : Int32.ofNat (2 * n) >>> ((1 : Int32) &&& 31) = Int32.ofNat n := by
  apply Int32.toInt_inj.mp
  rw [c_ishr _ 1 1 (by decide), own_ofN (by omega), own_ofN (by omega)]
  show ((2 * n : Nat) : Int) / ((2 ^ 1 : Nat) : Int) = n
  omega
theorem own_shl1 {n : Nat} (h : n < 2 ^ 29) : Int32.ofNat n <<< ((1 : Int32) &&& 31) = Int32.ofNat (2 * n) := by
  apply Int32.toInt_inj.mp
  have a := c_ishl (Int32.ofNat n) 1 1 (by decide)
  have r := rng32 (Int32.ofNat n <<< ((1 : Int32) &&& 31))
  rw [own_ofN (by omega)] at a
  rw [own_ofN (by omega)]
  have e : ((2 ^ 1 : Nat) : Int) = 2 := rfl
  rw [e] at a
  omega
theorem own_255 (x : Int32) : (x.toInt8.toInt32 &&& 255).toInt = x.toInt % 256 := by
  have a := c_mask x.toInt8.toInt32 255 8 (by decide) (by decide +kernel)
  have b := c_i2b x
  have e : ((2 ^ 8 : Nat) : Int) = 256 := rfl
  rw [a, e]; omega
theorem own_i2c {c : Nat} (h : c < 65536) : (Int32.ofNat c).toUInt32.toUInt16.toUInt32.toInt32 = Int32.ofNat c := by
  apply Int32.toInt_inj.mp
  have a := c_i2c (Int32.ofNat c)
  rw [own_ofN (by omega)] at *
  omega
theorem own_getL {c : Nat} (h : c < 256) : (own_bt c &&& (255 : Int32)) = Int32.ofNat c := by
  apply Int32.toInt_inj.mp
  unfold own_bt
  rw [own_255, own_ofN (by omega)]; omega
theorem own_getU {c : Nat} (h : c < 65536) : (((own_bt c &&& (255 : Int32)) <<< ((0 : Int32) &&& 31)) ||| ((own_hi c &&& (255 : Int32)) <<< ((8 : Int32) &&& 31))) = Int32.ofNat c := by
  apply Int32.toInt_inj.mp
  have a : (own_bt c &&& (255 : Int32)).toInt = c % 256 := by unfold own_bt; rw [own_255, own_ofN (by omega)]
  have b : (own_hi c &&& (255 : Int32)).toInt = c / 256 := by
    unfold own_hi; rw [own_255, c_ishr _ 8 8 (by decide), own_ofN (by omega)]
    show ((c : Int) / ((2 ^ 8 : Nat) : Int)) % 256 = _
    have e : ((2 ^ 8 : Nat) : Int) = 256 := rfl
    rw [e]; omega
  have a1 := c_ishl (own_bt c &&& (255 : Int32)) 0 0 (by decide)
  have ra := rng32 ((own_bt c &&& (255 : Int32)) <<< ((0 : Int32) &&& 31))
  have b1 := c_ishl (own_hi c &&& (255 : Int32)) 8 8 (by decide)
  have rb := rng32 ((own_hi c &&& (255 : Int32)) <<< ((8 : Int32) &&& 31))
  have e0 : ((2 ^ 0 : Nat) : Int) = 1 := rfl
  have e8 : ((2 ^ 8 : Nat) : Int) = 256 := rfl
  rw [a, e0] at a1
  rw [b, e8] at b1
  have o := c_or' ((own_bt c &&& (255 : Int32)) <<< ((0 : Int32) &&& 31)) ((own_hi c &&& (255 : Int32)) <<< ((8 : Int32) &&& 31)) 8 (by decide) 256 rfl (by omega) (by omega) (by omega)
  have ro := rng32 (((own_bt c &&& (255 : Int32)) <<< ((0 : Int32) &&& 31)) ||| ((own_hi c &&& (255 : Int32)) <<< ((8 : Int32) &&& 31)))
  rw [own_ofN (by omega)]
  omega
theorem own_pn0 : plainFor (⟨"java/lang/String", "coder", "()B"⟩ : MethodName) = true := by first | exact plainFor_of_name (by first | (simp [plainName, overriddenIn, x]; done) | decide +kernel) | decide +kernel
theorem ef_7 (m : MethodId) (q0 : Addr) : entryFrame m #[(.ref q0)] 1 = mkF m 0 #[.val (.ref q0)] [] := by first | (simp [entryFrame, mkF, argsToLocals, Value.category, maxLocals]; done) | rfl
theorem d7_0 : decode jdk_42_method_152_code 0 = .ok (.getstatic 38, 3) := by decide +kernel
theorem d7_3 : decode jdk_42_method_152_code 3 = .ok (.ifCond .eq 10, 3) := by decide +kernel
theorem d7_6 : decode jdk_42_method_152_code 6 = .ok (.aload_n 0, 1) := by decide +kernel
theorem d7_7 : decode jdk_42_method_152_code 7 = .ok (.getfield 15, 3) := by decide +kernel
theorem d7_10 : decode jdk_42_method_152_code 10 = .ok (.goto 4, 3) := by decide +kernel
theorem d7_14 : decode jdk_42_method_152_code 14 = .ok (.ireturn, 1) := by decide +kernel
set_option maxRecDepth 65536 in
set_option maxHeartbeats 40000000 in
theorem own_c7_0 (l : Launch) (Z : State) (a0 : Array Value) (hw : ∀ d ∈ tables_1, d.before a0 Z = true) (cs : Int32) (gv : Value) (G : own_G Z cs gv) (h0 : Heap) (n0 : Nat) (O0 : Old Z n0 h0) (t V : Addr) (n : Nat) (f : Nat → Nat) (hn : n < 2 ^ 20) (H : own_T Z h0 (0 : Int32) t V n (own_lat f)) :
    Con l Z (⟨"java/lang/String", "coder", "()B"⟩ : MethodName) jdk_42_method_152_code 1 (some .byte) [] ({ frames := 0, cells := 0, slots := 0, locals := 0 } : Room) 0 0 #[(.ref t)] h0 (fun r h L => r = some (.int (0 : Int32)) ∧ h = h0 ∧ L = []) := by
  refine Con.of own_pn0 ?_
  intro pg ev s_ m bl mt cd s₁ hx hby hml hown hnm hret hlk hZ X0 e0
  rw [ef_7]
  show Gd _ _ _ _ (s₁.setTop (mkF m 0 #[.val (.ref t)] []))
  obtain ⟨T1, X1, e1, st1⟩ := getS2 X0 hx hZ hown (host := "") (Or.inl (ow hw 41 rfl)) Via.refl e0 (G.2.1.ext O0.2) (g := (mkF m 0 #[.val (.ref t)] [])) rfl (hb hby d7_0)
  refine Gd.go (fun _ w_k => st1 _ (XS.ifNo X1.here hx rfl (hb hby d7_3) rfl ((if0 _ _).trans (feq G.1).1) w_k)) ?_
  show Gd _ _ _ _ (T1.setTop (mkF m 6 #[.val (.ref t)] []))
  refine Gd.go (fun _ w_k => XS.aloadN X1.here hx rfl (hb hby d7_6) rfl rfl w_k) ?_
  show Gd _ _ _ _ (T1.setTop (mkF m 7 #[.val (.ref t)] [(.ref t)]))
  obtain ⟨T2, X2, e2, st2⟩ := getF X1 hx hZ hown (host := "") (Or.inl (ow hw 26 rfl)) Via.refl e1 H.2.2.1 (g := (mkF m 7 #[.val (.ref t)] [(.ref t)])) rfl rfl (hb hby d7_7)
  refine Gd.go (fun _ w_k => st2 _ (XS.goto X2.here hx rfl (pc0 := 10) (pc' := 14) rfl (hb hby d7_10) (by decide) (by decide) w_k)) ?_
  show Gd _ _ _ _ (T2.setTop (mkF m 14 #[.val (.ref t)] [(.int (0 : Int32))]))
  refine own_retN (t := .byte) X2 hx hret hlk (by simp) (hb hby d7_14) ?_ (by decide) (by decide)
  exact ⟨rfl, e2, rfl⟩
theorem own_pn1 : plainFor (⟨"java/lang/String", "length", "()I"⟩ : MethodName) = true := by first | exact plainFor_of_name (by first | (simp [plainName, overriddenIn, x]; done) | decide +kernel) | decide +kernel
theorem ef_6 (m : MethodId) (q0 : Addr) : entryFrame m #[(.ref q0)] 1 = mkF m 0 #[.val (.ref q0)] [] := by first | (simp [entryFrame, mkF, argsToLocals, Value.category, maxLocals]; done) | rfl
theorem d6_0 : decode jdk_42_method_54_code 0 = .ok (.aload_n 0, 1) := by decide +kernel
theorem d6_1 : decode jdk_42_method_54_code 1 = .ok (.getfield 9, 3) := by decide +kernel
theorem d6_4 : decode jdk_42_method_54_code 4 = .ok (.arraylength, 1) := by decide +kernel
theorem d6_5 : decode jdk_42_method_54_code 5 = .ok (.aload_n 0, 1) := by decide +kernel
theorem own_pd0 : parseMethodDescriptor "()B" = some ⟨[], some .byte⟩ := by decide +kernel
theorem d6_6 : decode jdk_42_method_54_code 6 = .ok (.invokevirtual 335, 3) := by decide +kernel
theorem d6_9 : decode jdk_42_method_54_code 9 = .ok (.ishr, 1) := by decide +kernel
theorem d6_10 : decode jdk_42_method_54_code 10 = .ok (.ireturn, 1) := by decide +kernel
set_option maxRecDepth 65536 in
set_option maxHeartbeats 40000000 in
theorem own_c6_0 (l : Launch) (Z : State) (a0 : Array Value) (hw : ∀ d ∈ tables_1, d.before a0 Z = true) (cs : Int32) (gv : Value) (G : own_G Z cs gv) (h0 : Heap) (n0 : Nat) (O0 : Old Z n0 h0) (t V : Addr) (n : Nat) (f : Nat → Nat) (hn : n < 2 ^ 20) (H : own_T Z h0 (0 : Int32) t V n (own_lat f)) :
    Con l Z (⟨"java/lang/String", "length", "()I"⟩ : MethodName) jdk_42_method_54_code 1 (some .int) [] ({ frames := 1, cells := 0, slots := 0, locals := 13 } : Room) 0 0 #[(.ref t)] h0 (fun r h L => r = some (.int (Int32.ofNat n)) ∧ h = h0 ∧ L = []) := by
  refine Con.of own_pn1 ?_
  intro pg ev s_ m bl mt cd s₁ hx hby hml hown hnm hret hlk hZ X0 e0
  rw [ef_6]
  show Gd _ _ _ _ (s₁.setTop (mkF m 0 #[.val (.ref t)] []))
  refine Gd.go (fun _ w_k => XS.aloadN X0.here hx rfl (hb hby d6_0) rfl rfl w_k) ?_
  show Gd _ _ _ _ (s₁.setTop (mkF m 1 #[.val (.ref t)] [(.ref t)]))
  obtain ⟨T1, X1, e1, st1⟩ := getF X0 hx hZ hown (host := "") (Or.inl (ow hw 25 rfl)) Via.refl e0 H.2.1 (g := (mkF m 1 #[.val (.ref t)] [(.ref t)])) rfl rfl (hb hby d6_1)
  refine Gd.go (fun _ w_k => st1 _ (own_len X1 hx hZ e1 H.2.2.2 (z := (Int32.ofNat n)) rfl (g := (mkF m 4 #[.val (.ref t)] [(.ref V)])) rfl rfl (hb hby d6_4) _ (XS.aloadN X1.here hx rfl (hb hby d6_5) rfl rfl w_k))) ?_
  show Gd _ _ _ _ (T1.setTop (mkF m 6 #[.val (.ref t)] [(.ref t), (.int (Int32.ofNat n))]))
  obtain ⟨T2, X2, e2, st2⟩ := own_callVP X1 hx hZ (C := "java/lang/String") (y := (⟨"java/lang/String", "coder", "()B"⟩ : MethodName)) hown (ow hw 36 rfl) (ow hw 37 rfl) (ow hw 39 rfl) (ow hw 38 rfl) (ow hw 8 rfl) (ow hw 40 rfl) (by decide) H.1 (W := 1) (own_c7_0 l Z a0 hw cs gv G h0 n0 O0 t V n f hn H) rfl rfl e1 (by decide) (by decide) (g := (mkF m 6 #[.val (.ref t)] [(.ref t), (.int (Int32.ofNat n))])) rfl (by rw [hml]; rfl) (argsL := []) (rest := [(.int (Int32.ofNat n))]) (lenOf own_pd0 rfl) rfl (Nat.le_of_eq rfl) (hb hby d6_6) rfl
  refine Gd.go (fun _ w_k => st2 _ (XS.ishr X2.here hx rfl (hb hby d6_9) rfl w_k)) ?_
  show Gd _ _ _ _ (T2.setTop (mkF m 10 #[.val (.ref t)] [(.int ((Int32.ofNat n) >>> ((0 : Int32) &&& 31)))]))
  rw [own_sh0]
  show Gd _ _ _ _ (T2.setTop (mkF m 10 #[.val (.ref t)] [(.int (Int32.ofNat n))]))
  refine own_retI X2 hx hret hlk (hb hby d6_10) ?_ (by decide) (by decide)
  exact ⟨rfl, e2, rfl⟩
theorem own_pn2 : plainFor (⟨"java/lang/String", "isLatin1", "()Z"⟩ : MethodName) = true := by first | exact plainFor_of_name (by first | (simp [plainName, overriddenIn, x]; done) | decide +kernel) | decide +kernel
theorem ef_13 (m : MethodId) (q0 : Addr) : entryFrame m #[(.ref q0)] 1 = mkF m 0 #[.val (.ref q0)] [] := by first | (simp [entryFrame, mkF, argsToLocals, Value.category, maxLocals]; done) | rfl
theorem d13_0 : decode jdk_42_method_154_code 0 = .ok (.getstatic 38, 3) := by decide +kernel
theorem d13_3 : decode jdk_42_method_154_code 3 = .ok (.ifCond .eq 14, 3) := by decide +kernel
theorem d13_6 : decode jdk_42_method_154_code 6 = .ok (.aload_n 0, 1) := by decide +kernel
theorem d13_7 : decode jdk_42_method_154_code 7 = .ok (.getfield 15, 3) := by decide +kernel
theorem d13_10 : decode jdk_42_method_154_code 10 = .ok (.ifCond .ne 7, 3) := by decide +kernel
theorem d13_13 : decode jdk_42_method_154_code 13 = .ok (.iconst 1, 1) := by decide +kernel
theorem d13_14 : decode jdk_42_method_154_code 14 = .ok (.goto 4, 3) := by decide +kernel
theorem d13_18 : decode jdk_42_method_154_code 18 = .ok (.ireturn, 1) := by decide +kernel
set_option maxRecDepth 65536 in
set_option maxHeartbeats 40000000 in
theorem own_c13_0 (l : Launch) (Z : State) (a0 : Array Value) (hw : ∀ d ∈ tables_1, d.before a0 Z = true) (cs : Int32) (gv : Value) (G : own_G Z cs gv) (h0 : Heap) (n0 : Nat) (O0 : Old Z n0 h0) (t V : Addr) (n : Nat) (f : Nat → Nat) (hn : n < 2 ^ 20) (H : own_T Z h0 (0 : Int32) t V n (own_lat f)) :
    Con l Z (⟨"java/lang/String", "isLatin1", "()Z"⟩ : MethodName) jdk_42_method_154_code 1 (some .boolean) [] ({ frames := 0, cells := 0, slots := 0, locals := 0 } : Room) 0 0 #[(.ref t)] h0 (fun r h L => r = some (.int (1 : Int32)) ∧ h = h0 ∧ L = []) := by
  refine Con.of own_pn2 ?_
  intro pg ev s_ m bl mt cd s₁ hx hby hml hown hnm hret hlk hZ X0 e0
  rw [ef_13]
  show Gd _ _ _ _ (s₁.setTop (mkF m 0 #[.val (.ref t)] []))
  obtain ⟨T1, X1, e1, st1⟩ := getS2 X0 hx hZ hown (host := "") (Or.inl (ow hw 41 rfl)) Via.refl e0 (G.2.1.ext O0.2) (g := (mkF m 0 #[.val (.ref t)] [])) rfl (hb hby d13_0)
  refine Gd.go (fun _ w_k => st1 _ (XS.ifNo X1.here hx rfl (hb hby d13_3) rfl ((if0 _ _).trans (feq G.1).1) w_k)) ?_
  show Gd _ _ _ _ (T1.setTop (mkF m 6 #[.val (.ref t)] []))
  refine Gd.go (fun _ w_k => XS.aloadN X1.here hx rfl (hb hby d13_6) rfl rfl w_k) ?_
  show Gd _ _ _ _ (T1.setTop (mkF m 7 #[.val (.ref t)] [(.ref t)]))
  obtain ⟨T2, X2, e2, st2⟩ := getF X1 hx hZ hown (host := "") (Or.inl (ow hw 26 rfl)) Via.refl e1 H.2.2.1 (g := (mkF m 7 #[.val (.ref t)] [(.ref t)])) rfl rfl (hb hby d13_7)
  refine Gd.go (fun _ w_k => st2 _ (XS.ifNo X2.here hx rfl (hb hby d13_10) rfl ((if0 _ _).trans (teq (by decide)).2) w_k)) ?_
  show Gd _ _ _ _ (T2.setTop (mkF m 13 #[.val (.ref t)] []))
  refine Gd.go (fun _ w_k => XS.iconst X2.here hx rfl (hb hby d13_13) (XS.goto X2.here hx rfl (pc0 := 14) (pc' := 18) rfl (hb hby d13_14) (by decide) (by decide) w_k)) ?_
  show Gd _ _ _ _ (T2.setTop (mkF m 18 #[.val (.ref t)] [(.int (1 : Int32))]))
  refine own_retN (t := .boolean) X2 hx hret hlk (by simp) (hb hby d13_18) ?_ (by decide) (by decide)
  exact ⟨rfl, e2, rfl⟩
set_option maxRecDepth 65536 in
set_option maxHeartbeats 40000000 in
theorem own_c7_1 (l : Launch) (Z : State) (a0 : Array Value) (hw : ∀ d ∈ tables_1, d.before a0 Z = true) (cs : Int32) (gv : Value) (G : own_G Z cs gv) (h0 : Heap) (n0 : Nat) (O0 : Old Z n0 h0) (t V : Addr) (n : Nat) (f : Nat → Nat) (hn : n < 2 ^ 20) (H : own_T Z h0 (1 : Int32) t V (2 * n) (own_utf f)) :
    Con l Z (⟨"java/lang/String", "coder", "()B"⟩ : MethodName) jdk_42_method_152_code 1 (some .byte) [] ({ frames := 0, cells := 0, slots := 0, locals := 0 } : Room) 0 0 #[(.ref t)] h0 (fun r h L => r = some (.int (1 : Int32)) ∧ h = h0 ∧ L = []) := by
  refine Con.of own_pn0 ?_
  intro pg ev s_ m bl mt cd s₁ hx hby hml hown hnm hret hlk hZ X0 e0
  rw [ef_7]
  show Gd _ _ _ _ (s₁.setTop (mkF m 0 #[.val (.ref t)] []))
  obtain ⟨T1, X1, e1, st1⟩ := getS2 X0 hx hZ hown (host := "") (Or.inl (ow hw 41 rfl)) Via.refl e0 (G.2.1.ext O0.2) (g := (mkF m 0 #[.val (.ref t)] [])) rfl (hb hby d7_0)
  refine Gd.go (fun _ w_k => st1 _ (XS.ifNo X1.here hx rfl (hb hby d7_3) rfl ((if0 _ _).trans (feq G.1).1) w_k)) ?_
  show Gd _ _ _ _ (T1.setTop (mkF m 6 #[.val (.ref t)] []))
  refine Gd.go (fun _ w_k => XS.aloadN X1.here hx rfl (hb hby d7_6) rfl rfl w_k) ?_
  show Gd _ _ _ _ (T1.setTop (mkF m 7 #[.val (.ref t)] [(.ref t)]))
  obtain ⟨T2, X2, e2, st2⟩ := getF X1 hx hZ hown (host := "") (Or.inl (ow hw 26 rfl)) Via.refl e1 H.2.2.1 (g := (mkF m 7 #[.val (.ref t)] [(.ref t)])) rfl rfl (hb hby d7_7)
  refine Gd.go (fun _ w_k => st2 _ (XS.goto X2.here hx rfl (pc0 := 10) (pc' := 14) rfl (hb hby d7_10) (by decide) (by decide) w_k)) ?_
  show Gd _ _ _ _ (T2.setTop (mkF m 14 #[.val (.ref t)] [(.int (1 : Int32))]))
  refine own_retN (t := .byte) X2 hx hret hlk (by simp) (hb hby d7_14) ?_ (by decide) (by decide)
  exact ⟨rfl, e2, rfl⟩
set_option maxRecDepth 65536 in
set_option maxHeartbeats 40000000 in
theorem own_c6_1 (l : Launch) (Z : State) (a0 : Array Value) (hw : ∀ d ∈ tables_1, d.before a0 Z = true) (cs : Int32) (gv : Value) (G : own_G Z cs gv) (h0 : Heap) (n0 : Nat) (O0 : Old Z n0 h0) (t V : Addr) (n : Nat) (f : Nat → Nat) (hn : n < 2 ^ 20) (H : own_T Z h0 (1 : Int32) t V (2 * n) (own_utf f)) :
    Con l Z (⟨"java/lang/String", "length", "()I"⟩ : MethodName) jdk_42_method_54_code 1 (some .int) [] ({ frames := 1, cells := 0, slots := 0, locals := 13 } : Room) 0 0 #[(.ref t)] h0 (fun r h L => r = some (.int (Int32.ofNat n)) ∧ h = h0 ∧ L = []) := by
  refine Con.of own_pn1 ?_
  intro pg ev s_ m bl mt cd s₁ hx hby hml hown hnm hret hlk hZ X0 e0
  rw [ef_6]
  show Gd _ _ _ _ (s₁.setTop (mkF m 0 #[.val (.ref t)] []))
  refine Gd.go (fun _ w_k => XS.aloadN X0.here hx rfl (hb hby d6_0) rfl rfl w_k) ?_
  show Gd _ _ _ _ (s₁.setTop (mkF m 1 #[.val (.ref t)] [(.ref t)]))
  obtain ⟨T1, X1, e1, st1⟩ := getF X0 hx hZ hown (host := "") (Or.inl (ow hw 25 rfl)) Via.refl e0 H.2.1 (g := (mkF m 1 #[.val (.ref t)] [(.ref t)])) rfl rfl (hb hby d6_1)
  refine Gd.go (fun _ w_k => st1 _ (own_len X1 hx hZ e1 H.2.2.2 (z := (Int32.ofNat (2 * n))) rfl (g := (mkF m 4 #[.val (.ref t)] [(.ref V)])) rfl rfl (hb hby d6_4) _ (XS.aloadN X1.here hx rfl (hb hby d6_5) rfl rfl w_k))) ?_
  show Gd _ _ _ _ (T1.setTop (mkF m 6 #[.val (.ref t)] [(.ref t), (.int (Int32.ofNat (2 * n)))]))
  obtain ⟨T2, X2, e2, st2⟩ := own_callVP X1 hx hZ (C := "java/lang/String") (y := (⟨"java/lang/String", "coder", "()B"⟩ : MethodName)) hown (ow hw 36 rfl) (ow hw 37 rfl) (ow hw 39 rfl) (ow hw 38 rfl) (ow hw 8 rfl) (ow hw 40 rfl) (by decide) H.1 (W := 1) (own_c7_1 l Z a0 hw cs gv G h0 n0 O0 t V n f hn H) rfl rfl e1 (by decide) (by decide) (g := (mkF m 6 #[.val (.ref t)] [(.ref t), (.int (Int32.ofNat (2 * n)))])) rfl (by rw [hml]; rfl) (argsL := []) (rest := [(.int (Int32.ofNat (2 * n)))]) (lenOf own_pd0 rfl) rfl (Nat.le_of_eq rfl) (hb hby d6_6) rfl
  refine Gd.go (fun _ w_k => st2 _ (XS.ishr X2.here hx rfl (hb hby d6_9) rfl w_k)) ?_
  show Gd _ _ _ _ (T2.setTop (mkF m 10 #[.val (.ref t)] [(.int ((Int32.ofNat (2 * n)) >>> ((1 : Int32) &&& 31)))]))
  rw [own_sh1 (by omega)]
  show Gd _ _ _ _ (T2.setTop (mkF m 10 #[.val (.ref t)] [(.int (Int32.ofNat n))]))
  refine own_retI X2 hx hret hlk (hb hby d6_10) ?_ (by decide) (by decide)
  exact ⟨rfl, e2, rfl⟩
theorem d13_17 : decode jdk_42_method_154_code 17 = .ok (.iconst 0, 1) := by decide +kernel
set_option maxRecDepth 65536 in
set_option maxHeartbeats 40000000 in
theorem own_c13_1 (l : Launch) (Z : State) (a0 : Array Value) (hw : ∀ d ∈ tables_1, d.before a0 Z = true) (cs : Int32) (gv : Value) (G : own_G Z cs gv) (h0 : Heap) (n0 : Nat) (O0 : Old Z n0 h0) (t V : Addr) (n : Nat) (f : Nat → Nat) (hn : n < 2 ^ 20) (H : own_T Z h0 (1 : Int32) t V (2 * n) (own_utf f)) :
    Con l Z (⟨"java/lang/String", "isLatin1", "()Z"⟩ : MethodName) jdk_42_method_154_code 1 (some .boolean) [] ({ frames := 0, cells := 0, slots := 0, locals := 0 } : Room) 0 0 #[(.ref t)] h0 (fun r h L => r = some (.int (0 : Int32)) ∧ h = h0 ∧ L = []) := by
  refine Con.of own_pn2 ?_
  intro pg ev s_ m bl mt cd s₁ hx hby hml hown hnm hret hlk hZ X0 e0
  rw [ef_13]
  show Gd _ _ _ _ (s₁.setTop (mkF m 0 #[.val (.ref t)] []))
  obtain ⟨T1, X1, e1, st1⟩ := getS2 X0 hx hZ hown (host := "") (Or.inl (ow hw 41 rfl)) Via.refl e0 (G.2.1.ext O0.2) (g := (mkF m 0 #[.val (.ref t)] [])) rfl (hb hby d13_0)
  refine Gd.go (fun _ w_k => st1 _ (XS.ifNo X1.here hx rfl (hb hby d13_3) rfl ((if0 _ _).trans (feq G.1).1) w_k)) ?_
  show Gd _ _ _ _ (T1.setTop (mkF m 6 #[.val (.ref t)] []))
  refine Gd.go (fun _ w_k => XS.aloadN X1.here hx rfl (hb hby d13_6) rfl rfl w_k) ?_
  show Gd _ _ _ _ (T1.setTop (mkF m 7 #[.val (.ref t)] [(.ref t)]))
  obtain ⟨T2, X2, e2, st2⟩ := getF X1 hx hZ hown (host := "") (Or.inl (ow hw 26 rfl)) Via.refl e1 H.2.2.1 (g := (mkF m 7 #[.val (.ref t)] [(.ref t)])) rfl rfl (hb hby d13_7)
  refine Gd.go (fun _ w_k => st2 _ (XS.ifYes X2.here hx rfl (pc0 := 10) (pc' := 17) rfl (hb hby d13_10) rfl ((if0 _ _).trans (feq (by decide)).2) (by decide) (by decide) w_k)) ?_
  show Gd _ _ _ _ (T2.setTop (mkF m 17 #[.val (.ref t)] []))
  refine Gd.go (fun _ w_k => XS.iconst X2.here hx rfl (hb hby d13_17) w_k) ?_
  show Gd _ _ _ _ (T2.setTop (mkF m 18 #[.val (.ref t)] [(.int (0 : Int32))]))
  refine own_retN (t := .boolean) X2 hx hret hlk (by simp) (hb hby d13_18) ?_ (by decide) (by decide)
  exact ⟨rfl, e2, rfl⟩
theorem own_pn3 : plainFor (⟨"jdk/internal/util/Preconditions", "checkIndex", "(IILjava/util/function/BiFunction;)I"⟩ : MethodName) = true := by first | exact plainFor_of_name (by first | (simp [plainName, overriddenIn, x]; done) | decide +kernel) | decide +kernel
theorem ef_16 (m : MethodId) (q0 : Int32) (q1 : Int32) (q2 : Value) (hcq2 : q2.category = 1) : entryFrame m #[(.int q0), (.int q1), q2] 3 = mkF m 0 #[.val (.int q0), .val (.int q1), .val q2] [] := by
  cases q2 <;> first | (simp [entryFrame, mkF, argsToLocals, Value.category, maxLocals]; done) | rfl | exact absurd hcq2 (by simp [Value.category])
theorem d16_0 : decode jdk_41_method_11_code 0 = .ok (.iload_n 0, 1) := by decide +kernel
theorem d16_1 : decode jdk_41_method_11_code 1 = .ok (.ifCond .lt 8, 3) := by decide +kernel
theorem d16_4 : decode jdk_41_method_11_code 4 = .ok (.iload_n 0, 1) := by decide +kernel
theorem d16_5 : decode jdk_41_method_11_code 5 = .ok (.iload_n 1, 1) := by decide +kernel
theorem d16_6 : decode jdk_41_method_11_code 6 = .ok (.if_icmp .lt 10, 3) := by decide +kernel
theorem d16_16 : decode jdk_41_method_11_code 16 = .ok (.iload_n 0, 1) := by decide +kernel
theorem d16_17 : decode jdk_41_method_11_code 17 = .ok (.ireturn, 1) := by decide +kernel
set_option maxRecDepth 65536 in
set_option maxHeartbeats 40000000 in
theorem own_c16 (l : Launch) (Z : State) (a0 : Array Value) (hw : ∀ d ∈ tables_1, d.before a0 Z = true) (i n : Nat) (v : Value) (hv : v.category = 1) (g1 : i < n) (g3 : n < 2 ^ 20) (h0 : Heap) :
    Con l Z (⟨"jdk/internal/util/Preconditions", "checkIndex", "(IILjava/util/function/BiFunction;)I"⟩ : MethodName) jdk_41_method_11_code 3 (some .int) [] ({ frames := 0, cells := 0, slots := 0, locals := 0 } : Room) 0 0 #[(.int (Int32.ofNat i)), (.int (Int32.ofNat n)), v] h0 (fun r h L => r = some (.int (Int32.ofNat i)) ∧ h = h0 ∧ L = []) := by
  refine Con.of own_pn3 ?_
  intro pg ev s_ m bl mt cd s₁ hx hby hml hown hnm hret hlk hZ X0 e0
  rw [ef_16 (hcq2 := hv)]
  show Gd _ _ _ _ (s₁.setTop (mkF m 0 #[.val (.int (Int32.ofNat i)), .val (.int (Int32.ofNat n)), .val v] []))
  have z0 : (0 : Int32).toInt = 0 := rfl
  have ec1 := own_ofN (n := i) (by omega)
  have ec3 := own_ofN (n := n) (by omega)
  refine Gd.go (fun _ w_k => XS.iloadN X0.here hx rfl (hb hby d16_0) rfl (XS.ifNo X0.here hx rfl (hb hby d16_1) rfl ((if0 _ _).trans (flt (by rw [Int32.lt_iff_toInt_lt]; omega)).1) w_k)) ?_
  show Gd _ _ _ _ (s₁.setTop (mkF m 4 #[.val (.int (Int32.ofNat i)), .val (.int (Int32.ofNat n)), .val v] []))
  refine Gd.go (fun _ w_k => XS.iloadN X0.here hx rfl (hb hby d16_4) rfl (XS.iloadN X0.here hx rfl (hb hby d16_5) rfl (XS.icmpYes X0.here hx rfl (pc0 := 6) (pc' := 16) rfl (hb hby d16_6) rfl (tlt (by rw [Int32.lt_iff_toInt_lt]; omega)).1 (by decide) (by decide) w_k))) ?_
  show Gd _ _ _ _ (s₁.setTop (mkF m 16 #[.val (.int (Int32.ofNat i)), .val (.int (Int32.ofNat n)), .val v] []))
  refine Gd.go (fun _ w_k => XS.iloadN X0.here hx rfl (hb hby d16_16) rfl w_k) ?_
  show Gd _ _ _ _ (s₁.setTop (mkF m 17 #[.val (.int (Int32.ofNat i)), .val (.int (Int32.ofNat n)), .val v] [(.int (Int32.ofNat i))]))
  refine own_retI X0 hx hret hlk (hb hby d16_17) ?_ (by decide) (by decide)
  exact ⟨rfl, e0, rfl⟩
theorem own_pn4 : plainFor (⟨"java/lang/String", "checkIndex", "(II)V"⟩ : MethodName) = true := by first | exact plainFor_of_name (by first | (simp [plainName, overriddenIn, x]; done) | decide +kernel) | decide +kernel
theorem ef_15 (m : MethodId) (q0 : Int32) (q1 : Int32) : entryFrame m #[(.int q0), (.int q1)] 2 = mkF m 0 #[.val (.int q0), .val (.int q1)] [] := by first | (simp [entryFrame, mkF, argsToLocals, Value.category, maxLocals]; done) | rfl
theorem d15_0 : decode jdk_42_method_155_code 0 = .ok (.iload_n 0, 1) := by decide +kernel
theorem d15_1 : decode jdk_42_method_155_code 1 = .ok (.iload_n 1, 1) := by decide +kernel
theorem d15_2 : decode jdk_42_method_155_code 2 = .ok (.getstatic 1053, 3) := by decide +kernel
theorem own_pd1 : parseMethodDescriptor "(IILjava/util/function/BiFunction;)I" = some ⟨[.int, .int, (.object "java/util/function/BiFunction")], some .int⟩ := by decide +kernel
theorem d15_5 : decode jdk_42_method_155_code 5 = .ok (.invokestatic 1059, 3) := by decide +kernel
theorem d15_8 : decode jdk_42_method_155_code 8 = .ok (.pop, 1) := by decide +kernel
theorem d15_9 : decode jdk_42_method_155_code 9 = .ok (.return_, 1) := by decide +kernel
set_option maxRecDepth 65536 in
set_option maxHeartbeats 40000000 in
theorem own_c15 (l : Launch) (Z : State) (a0 : Array Value) (hw : ∀ d ∈ tables_1, d.before a0 Z = true) (cs : Int32) (gv : Value) (G : own_G Z cs gv) (h0 : Heap) (n0 : Nat) (O0 : Old Z n0 h0) (i n : Nat) (g1 : i < n) (g3 : n < 2 ^ 20) :
    Con l Z (⟨"java/lang/String", "checkIndex", "(II)V"⟩ : MethodName) jdk_42_method_155_code 2 none [] ({ frames := 1, cells := 0, slots := 0, locals := 14 } : Room) 0 0 #[(.int (Int32.ofNat i)), (.int (Int32.ofNat n))] h0 (fun r h L => r = none ∧ h = h0 ∧ L = []) := by
  refine Con.of own_pn4 ?_
  intro pg ev s_ m bl mt cd s₁ hx hby hml hown hnm hret hlk hZ X0 e0
  rw [ef_15]
  show Gd _ _ _ _ (s₁.setTop (mkF m 0 #[.val (.int (Int32.ofNat i)), .val (.int (Int32.ofNat n))] []))
  refine Gd.go (fun _ w_k => XS.iloadN X0.here hx rfl (hb hby d15_0) rfl (XS.iloadN X0.here hx rfl (hb hby d15_1) rfl w_k)) ?_
  show Gd _ _ _ _ (s₁.setTop (mkF m 2 #[.val (.int (Int32.ofNat i)), .val (.int (Int32.ofNat n))] [(.int (Int32.ofNat n)), (.int (Int32.ofNat i))]))
  obtain ⟨T1, X1, e1, st1⟩ := getS2 X0 hx hZ hown (host := "") (Or.inl (ow hw 72 rfl)) Via.refl e0 (G.2.2.1.ext O0.2) (g := (mkF m 2 #[.val (.int (Int32.ofNat i)), .val (.int (Int32.ofNat n))] [(.int (Int32.ofNat n)), (.int (Int32.ofNat i))])) rfl (hb hby d15_2)
  refine Gd.go (fun _ w_k => st1 _ w_k) ?_
  show Gd _ _ _ _ (T1.setTop (mkF m 5 #[.val (.int (Int32.ofNat i)), .val (.int (Int32.ofNat n))] [gv, (.int (Int32.ofNat n)), (.int (Int32.ofNat i))]))
  obtain ⟨T2, X2, e2, st2⟩ := own_callSP X1 hx hZ (y := (⟨"jdk/internal/util/Preconditions", "checkIndex", "(IILjava/util/function/BiFunction;)I"⟩ : MethodName)) hown (ow hw 74 rfl) (ow hw 75 rfl) (ow hw 73 rfl) (ow hw 76 rfl) (by decide) (W := 0) (own_c16 l Z a0 hw i n gv G.2.2.2.1 g1 g3 h0) rfl rfl e1 (by decide) (by decide) (g := (mkF m 5 #[.val (.int (Int32.ofNat i)), .val (.int (Int32.ofNat n))] [gv, (.int (Int32.ofNat n)), (.int (Int32.ofNat i))])) rfl (by rw [hml]; rfl) (argsL := [(.int (Int32.ofNat i)), (.int (Int32.ofNat n)), gv]) (rest := []) (lenOf own_pd1 rfl) rfl (Nat.le_of_eq rfl) (hb hby d15_5) rfl
  refine Gd.go (fun _ w_k => st2 _ (XS.pop X2.here hx rfl (hb hby d15_8) rfl rfl w_k)) ?_
  show Gd _ _ _ _ (T2.setTop (mkF m 9 #[.val (.int (Int32.ofNat i)), .val (.int (Int32.ofNat n))] []))
  refine own_retV X2 hx hret hlk (hb hby d15_9) ?_ (by decide) (by decide)
  exact ⟨rfl, e2, rfl⟩
theorem own_pn5 : plainFor (⟨"java/lang/StringLatin1", "charAt", "([BI)C"⟩ : MethodName) = true := by first | exact plainFor_of_name (by first | (simp [plainName, overriddenIn, x]; done) | decide +kernel) | decide +kernel
theorem ef_14 (m : MethodId) (q0 : Addr) (q1 : Int32) : entryFrame m #[(.ref q0), (.int q1)] 2 = mkF m 0 #[.val (.ref q0), .val (.int q1)] [] := by first | (simp [entryFrame, mkF, argsToLocals, Value.category, maxLocals]; done) | rfl
theorem d14_0 : decode jdk_43_method_2_code 0 = .ok (.iload_n 1, 1) := by decide +kernel
theorem d14_1 : decode jdk_43_method_2_code 1 = .ok (.aload_n 0, 1) := by decide +kernel
theorem d14_2 : decode jdk_43_method_2_code 2 = .ok (.arraylength, 1) := by decide +kernel
theorem own_pd2 : parseMethodDescriptor "(II)V" = some ⟨[.int, .int], none⟩ := by decide +kernel
theorem d14_3 : decode jdk_43_method_2_code 3 = .ok (.invokestatic 9, 3) := by decide +kernel
theorem d14_6 : decode jdk_43_method_2_code 6 = .ok (.aload_n 0, 1) := by decide +kernel
theorem d14_7 : decode jdk_43_method_2_code 7 = .ok (.iload_n 1, 1) := by decide +kernel
theorem d14_8 : decode jdk_43_method_2_code 8 = .ok (.baload, 1) := by decide +kernel
theorem d14_9 : decode jdk_43_method_2_code 9 = .ok (.sipush 255, 3) := by decide +kernel
theorem d14_12 : decode jdk_43_method_2_code 12 = .ok (.iand, 1) := by decide +kernel
theorem d14_13 : decode jdk_43_method_2_code 13 = .ok (.i2c, 1) := by decide +kernel
theorem d14_14 : decode jdk_43_method_2_code 14 = .ok (.ireturn, 1) := by decide +kernel
set_option maxRecDepth 65536 in
set_option maxHeartbeats 40000000 in
theorem own_c14 (l : Launch) (Z : State) (a0 : Array Value) (hw : ∀ d ∈ tables_1, d.before a0 Z = true) (cs : Int32) (gv : Value) (G : own_G Z cs gv) (h0 : Heap) (n0 : Nat) (O0 : Old Z n0 h0) (V : Addr) (n : Nat) (f : Nat → Nat) (hn : n < 2 ^ 20) (A0 : ArF Z h0 V .byte n (own_lat f)) (i : Nat) (g1 : i < n) (g2 : f i < 256) :
    Con l Z (⟨"java/lang/StringLatin1", "charAt", "([BI)C"⟩ : MethodName) jdk_43_method_2_code 2 (some .char) [] ({ frames := 2, cells := 0, slots := 0, locals := 27 } : Room) 0 0 #[(.ref V), (.int (Int32.ofNat i))] h0 (fun r h L => r = some (.int (Int32.ofNat (f i))) ∧ h = h0 ∧ L = []) := by
  refine Con.of own_pn5 ?_
  intro pg ev s_ m bl mt cd s₁ hx hby hml hown hnm hret hlk hZ X0 e0
  rw [ef_14]
  show Gd _ _ _ _ (s₁.setTop (mkF m 0 #[.val (.ref V), .val (.int (Int32.ofNat i))] []))
  refine Gd.go (fun _ w_k => XS.iloadN X0.here hx rfl (hb hby d14_0) rfl (XS.aloadN X0.here hx rfl (hb hby d14_1) rfl rfl (own_len X0 hx hZ e0 A0 (z := (Int32.ofNat n)) rfl (g := (mkF m 2 #[.val (.ref V), .val (.int (Int32.ofNat i))] [(.ref V), (.int (Int32.ofNat i))])) rfl rfl (hb hby d14_2) _ w_k))) ?_
  show Gd _ _ _ _ (s₁.setTop (mkF m 3 #[.val (.ref V), .val (.int (Int32.ofNat i))] [(.int (Int32.ofNat n)), (.int (Int32.ofNat i))]))
  obtain ⟨T1, X1, e1, st1⟩ := own_callSP X0 hx hZ (y := (⟨"java/lang/String", "checkIndex", "(II)V"⟩ : MethodName)) hown (ow hw 69 rfl) (ow hw 70 rfl) (ow hw 8 rfl) (ow hw 71 rfl) (by decide) (W := 0) (own_c15 l Z a0 hw cs gv G h0 n0 O0 i n g1 hn) rfl rfl e0 (by decide) (by decide) (g := (mkF m 3 #[.val (.ref V), .val (.int (Int32.ofNat i))] [(.int (Int32.ofNat n)), (.int (Int32.ofNat i))])) rfl (by rw [hml]; rfl) (argsL := [(.int (Int32.ofNat i)), (.int (Int32.ofNat n))]) (rest := []) (lenOf own_pd2 rfl) rfl (Nat.le_of_eq rfl) (hb hby d14_3) rfl
  refine Gd.go (fun _ w_k => st1 _ (XS.aloadN X1.here hx rfl (hb hby d14_6) rfl rfl (XS.iloadN X1.here hx rfl (hb hby d14_7) rfl (own_ldB X1 hx hZ e1 A0 (j := (Int32.ofNat i)) (by rw [own_ofN (by omega)]; omega) (by rw [own_ofN (by omega)]; omega) (v := (.int (own_bt (f i)))) (by rw [own_ofC (by omega)]; rfl) (g := (mkF m 8 #[.val (.ref V), .val (.int (Int32.ofNat i))] [(.int (Int32.ofNat i)), (.ref V)])) rfl rfl (hb hby d14_8) _ (XS.sipush X1.here hx rfl (hb hby d14_9) (XS.iand X1.here hx rfl (hb hby d14_12) rfl w_k)))))) ?_
  show Gd _ _ _ _ (T1.setTop (mkF m 13 #[.val (.ref V), .val (.int (Int32.ofNat i))] [(.int ((own_bt (f i)) &&& (255 : Int32)))]))
  rw [own_getL g2]
  show Gd _ _ _ _ (T1.setTop (mkF m 13 #[.val (.ref V), .val (.int (Int32.ofNat i))] [(.int (Int32.ofNat (f i)))]))
  refine Gd.go (fun _ w_k => XS.i2c X1.here hx rfl (hb hby d14_13) rfl w_k) ?_
  show Gd _ _ _ _ (T1.setTop (mkF m 14 #[.val (.ref V), .val (.int (Int32.ofNat i))] [(.int ((Int32.ofNat (f i)).toUInt32.toUInt16.toUInt32.toInt32))]))
  rw [own_i2c (by omega)]
  show Gd _ _ _ _ (T1.setTop (mkF m 14 #[.val (.ref V), .val (.int (Int32.ofNat i))] [(.int (Int32.ofNat (f i)))]))
  refine own_retN (t := .char) X1 hx hret hlk (by simp) (hb hby d14_14) ?_ (by decide) (by decide)
  exact ⟨congrArg (fun q => some (Value.int q)) (own_i2c (by omega)), e1, rfl⟩
theorem own_pn6 : plainFor (⟨"java/lang/StringUTF16", "length", "([B)I"⟩ : MethodName) = true := by first | exact plainFor_of_name (by first | (simp [plainName, overriddenIn, x]; done) | decide +kernel) | decide +kernel
theorem ef_26 (m : MethodId) (q0 : Addr) : entryFrame m #[(.ref q0)] 1 = mkF m 0 #[.val (.ref q0)] [] := by first | (simp [entryFrame, mkF, argsToLocals, Value.category, maxLocals]; done) | rfl
theorem d26_0 : decode jdk_52_method_6_code 0 = .ok (.aload_n 0, 1) := by decide +kernel
theorem d26_1 : decode jdk_52_method_6_code 1 = .ok (.arraylength, 1) := by decide +kernel
theorem d26_2 : decode jdk_52_method_6_code 2 = .ok (.iconst 1, 1) := by decide +kernel
theorem d26_3 : decode jdk_52_method_6_code 3 = .ok (.ishr, 1) := by decide +kernel
theorem d26_4 : decode jdk_52_method_6_code 4 = .ok (.ireturn, 1) := by decide +kernel
set_option maxRecDepth 65536 in
set_option maxHeartbeats 40000000 in
theorem own_c26 (l : Launch) (Z : State) (a0 : Array Value) (hw : ∀ d ∈ tables_1, d.before a0 Z = true) (V : Addr) (n : Nat) (F : Nat → Value) (hn : n < 2 ^ 20) (h0 : Heap) (A0 : ArF Z h0 V .byte (2 * n) F) :
    Con l Z (⟨"java/lang/StringUTF16", "length", "([B)I"⟩ : MethodName) jdk_52_method_6_code 1 (some .int) [] ({ frames := 0, cells := 0, slots := 0, locals := 0 } : Room) 0 0 #[(.ref V)] h0 (fun r h L => r = some (.int (Int32.ofNat n)) ∧ h = h0 ∧ L = []) := by
  refine Con.of own_pn6 ?_
  intro pg ev s_ m bl mt cd s₁ hx hby hml hown hnm hret hlk hZ X0 e0
  rw [ef_26]
  show Gd _ _ _ _ (s₁.setTop (mkF m 0 #[.val (.ref V)] []))
  refine Gd.go (fun _ w_k => XS.aloadN X0.here hx rfl (hb hby d26_0) rfl rfl (own_len X0 hx hZ e0 A0 (z := (Int32.ofNat (2 * n))) rfl (g := (mkF m 1 #[.val (.ref V)] [(.ref V)])) rfl rfl (hb hby d26_1) _ (XS.iconst X0.here hx rfl (hb hby d26_2) (XS.ishr X0.here hx rfl (hb hby d26_3) rfl w_k)))) ?_
  show Gd _ _ _ _ (s₁.setTop (mkF m 4 #[.val (.ref V)] [(.int ((Int32.ofNat (2 * n)) >>> ((1 : Int32) &&& 31)))]))
  rw [own_sh1 (by omega)]
  show Gd _ _ _ _ (s₁.setTop (mkF m 4 #[.val (.ref V)] [(.int (Int32.ofNat n))]))
  refine own_retI X0 hx hret hlk (hb hby d26_4) ?_ (by decide) (by decide)
  exact ⟨rfl, e0, rfl⟩
theorem own_pn7 : plainFor (⟨"java/lang/StringUTF16", "checkIndex", "(I[B)V"⟩ : MethodName) = true := by first | exact plainFor_of_name (by first | (simp [plainName, overriddenIn, x]; done) | decide +kernel) | decide +kernel
theorem ef_25 (m : MethodId) (q0 : Int32) (q1 : Addr) : entryFrame m #[(.int q0), (.ref q1)] 2 = mkF m 0 #[.val (.int q0), .val (.ref q1)] [] := by first | (simp [entryFrame, mkF, argsToLocals, Value.category, maxLocals]; done) | rfl
theorem d25_0 : decode jdk_52_method_91_code 0 = .ok (.iload_n 0, 1) := by decide +kernel
theorem d25_1 : decode jdk_52_method_91_code 1 = .ok (.aload_n 1, 1) := by decide +kernel
theorem own_pd3 : parseMethodDescriptor "([B)I" = some ⟨[(.array .byte)], some .int⟩ := by decide +kernel
theorem d25_2 : decode jdk_52_method_91_code 2 = .ok (.invokestatic 48, 3) := by decide +kernel
theorem d25_5 : decode jdk_52_method_91_code 5 = .ok (.invokestatic 414, 3) := by decide +kernel
theorem d25_8 : decode jdk_52_method_91_code 8 = .ok (.return_, 1) := by decide +kernel
set_option maxRecDepth 65536 in
set_option maxHeartbeats 40000000 in
theorem own_c25 (l : Launch) (Z : State) (a0 : Array Value) (hw : ∀ d ∈ tables_1, d.before a0 Z = true) (cs : Int32) (gv : Value) (G : own_G Z cs gv) (h0 : Heap) (n0 : Nat) (O0 : Old Z n0 h0) (V : Addr) (n : Nat) (F : Nat → Value) (hn : n < 2 ^ 20) (A0 : ArF Z h0 V .byte (2 * n) F) (i : Nat) (g1 : i < n) :
    Con l Z (⟨"java/lang/StringUTF16", "checkIndex", "(I[B)V"⟩ : MethodName) jdk_52_method_91_code 2 none [] ({ frames := 2, cells := 0, slots := 0, locals := 27 } : Room) 0 0 #[(.int (Int32.ofNat i)), (.ref V)] h0 (fun r h L => r = none ∧ h = h0 ∧ L = []) := by
  refine Con.of own_pn7 ?_
  intro pg ev s_ m bl mt cd s₁ hx hby hml hown hnm hret hlk hZ X0 e0
  rw [ef_25]
  show Gd _ _ _ _ (s₁.setTop (mkF m 0 #[.val (.int (Int32.ofNat i)), .val (.ref V)] []))
  refine Gd.go (fun _ w_k => XS.iloadN X0.here hx rfl (hb hby d25_0) rfl (XS.aloadN X0.here hx rfl (hb hby d25_1) rfl rfl w_k)) ?_
  show Gd _ _ _ _ (s₁.setTop (mkF m 2 #[.val (.int (Int32.ofNat i)), .val (.ref V)] [(.ref V), (.int (Int32.ofNat i))]))
  obtain ⟨T1, X1, e1, st1⟩ := own_callSP X0 hx hZ (y := (⟨"java/lang/StringUTF16", "length", "([B)I"⟩ : MethodName)) hown (ow hw 110 rfl) (ow hw 111 rfl) (ow hw 44 rfl) (ow hw 112 rfl) (by decide) (W := 1) (own_c26 l Z a0 hw V n F hn h0 A0) rfl rfl e0 (by decide) (by decide) (g := (mkF m 2 #[.val (.int (Int32.ofNat i)), .val (.ref V)] [(.ref V), (.int (Int32.ofNat i))])) rfl (by rw [hml]; rfl) (argsL := [(.ref V)]) (rest := [(.int (Int32.ofNat i))]) (lenOf own_pd3 rfl) rfl (Nat.le_of_eq rfl) (hb hby d25_2) rfl
  refine Gd.go (fun _ w_k => st1 _ w_k) ?_
  show Gd _ _ _ _ (T1.setTop (mkF m 5 #[.val (.int (Int32.ofNat i)), .val (.ref V)] [(.int (Int32.ofNat n)), (.int (Int32.ofNat i))]))
  obtain ⟨T2, X2, e2, st2⟩ := own_callSP X1 hx hZ (y := (⟨"java/lang/String", "checkIndex", "(II)V"⟩ : MethodName)) hown (ow hw 113 rfl) (ow hw 70 rfl) (ow hw 8 rfl) (ow hw 71 rfl) (by decide) (W := 0) (own_c15 l Z a0 hw cs gv G h0 n0 O0 i n g1 hn) rfl rfl e1 (by decide) (by decide) (g := (mkF m 5 #[.val (.int (Int32.ofNat i)), .val (.ref V)] [(.int (Int32.ofNat n)), (.int (Int32.ofNat i))])) rfl (by rw [hml]; rfl) (argsL := [(.int (Int32.ofNat i)), (.int (Int32.ofNat n))]) (rest := []) (lenOf own_pd2 rfl) rfl (Nat.le_of_eq rfl) (hb hby d25_5) rfl
  refine Gd.go (fun _ w_k => st2 _ w_k) ?_
  show Gd _ _ _ _ (T2.setTop (mkF m 8 #[.val (.int (Int32.ofNat i)), .val (.ref V)] []))
  refine own_retV X2 hx hret hlk (hb hby d25_8) ?_ (by decide) (by decide)
  exact ⟨rfl, e2, rfl⟩
theorem own_pn8 : plainFor (⟨"java/lang/StringUTF16", "getChar", "([BI)C"⟩ : MethodName) = true := by first | exact plainFor_of_name (by first | (simp [plainName, overriddenIn, x]; done) | decide +kernel) | decide +kernel
theorem ef_23 (m : MethodId) (q0 : Addr) (q1 : Int32) : entryFrame m #[(.ref q0), (.int q1)] 2 = mkF m 0 #[.val (.ref q0), .val (.int q1)] [] := by first | (simp [entryFrame, mkF, argsToLocals, Value.category, maxLocals]; done) | rfl
theorem d23_0 : decode jdk_52_method_5_code 0 = .ok (.getstatic 44, 3) := by decide +kernel
theorem d23_3 : decode jdk_52_method_5_code 3 = .ok (.ifCond .ne 25, 3) := by decide +kernel
theorem d23_28 : decode jdk_52_method_5_code 28 = .ok (.iload_n 1, 1) := by decide +kernel
theorem d23_29 : decode jdk_52_method_5_code 29 = .ok (.iconst 1, 1) := by decide +kernel
theorem d23_30 : decode jdk_52_method_5_code 30 = .ok (.ishl, 1) := by decide +kernel
theorem d23_31 : decode jdk_52_method_5_code 31 = .ok (.istore_n 1, 1) := by decide +kernel
theorem d23_32 : decode jdk_52_method_5_code 32 = .ok (.aload_n 0, 1) := by decide +kernel
theorem d23_33 : decode jdk_52_method_5_code 33 = .ok (.iload_n 1, 1) := by decide +kernel
theorem d23_34 : decode jdk_52_method_5_code 34 = .ok (.iinc 1 1, 3) := by decide +kernel
theorem d23_37 : decode jdk_52_method_5_code 37 = .ok (.baload, 1) := by decide +kernel
theorem d23_38 : decode jdk_52_method_5_code 38 = .ok (.sipush 255, 3) := by decide +kernel
theorem d23_41 : decode jdk_52_method_5_code 41 = .ok (.iand, 1) := by decide +kernel
theorem d23_42 : decode jdk_52_method_5_code 42 = .ok (.getstatic 59, 3) := by decide +kernel
theorem d23_45 : decode jdk_52_method_5_code 45 = .ok (.ishl, 1) := by decide +kernel
theorem d23_46 : decode jdk_52_method_5_code 46 = .ok (.aload_n 0, 1) := by decide +kernel
theorem d23_47 : decode jdk_52_method_5_code 47 = .ok (.iload_n 1, 1) := by decide +kernel
theorem d23_48 : decode jdk_52_method_5_code 48 = .ok (.baload, 1) := by decide +kernel
theorem d23_49 : decode jdk_52_method_5_code 49 = .ok (.sipush 255, 3) := by decide +kernel
theorem d23_52 : decode jdk_52_method_5_code 52 = .ok (.iand, 1) := by decide +kernel
theorem d23_53 : decode jdk_52_method_5_code 53 = .ok (.getstatic 63, 3) := by decide +kernel
theorem d23_56 : decode jdk_52_method_5_code 56 = .ok (.ishl, 1) := by decide +kernel
theorem d23_57 : decode jdk_52_method_5_code 57 = .ok (.ior, 1) := by decide +kernel
theorem d23_58 : decode jdk_52_method_5_code 58 = .ok (.i2c, 1) := by decide +kernel
theorem d23_59 : decode jdk_52_method_5_code 59 = .ok (.ireturn, 1) := by decide +kernel
set_option maxRecDepth 65536 in
set_option maxHeartbeats 40000000 in
theorem own_c23 (l : Launch) (Z : State) (a0 : Array Value) (hw : ∀ d ∈ tables_1, d.before a0 Z = true) (cs : Int32) (gv : Value) (G : own_G Z cs gv) (h0 : Heap) (n0 : Nat) (O0 : Old Z n0 h0) (V : Addr) (n : Nat) (f : Nat → Nat) (hn : n < 2 ^ 20) (A0 : ArF Z h0 V .byte (2 * n) (own_utf f)) (i : Nat) (g1 : i < n) (g2 : f i < 65536) :
    Con l Z (⟨"java/lang/StringUTF16", "getChar", "([BI)C"⟩ : MethodName) jdk_52_method_5_code 2 (some .char) [] ({ frames := 0, cells := 0, slots := 0, locals := 0 } : Room) 0 0 #[(.ref V), (.int (Int32.ofNat i))] h0 (fun r h L => r = some (.int (Int32.ofNat (f i))) ∧ h = h0 ∧ L = []) := by
  refine Con.of own_pn8 ?_
  intro pg ev s_ m bl mt cd s₁ hx hby hml hown hnm hret hlk hZ X0 e0
  rw [ef_23]
  show Gd _ _ _ _ (s₁.setTop (mkF m 0 #[.val (.ref V), .val (.int (Int32.ofNat i))] []))
  have ul : own_utf f (2 * i) = .int (own_bt (f i)) := by unfold own_utf; rw [if_pos (by omega), show 2 * i / 2 = i by omega]
  have uh : own_utf f (2 * i + 1) = .int (own_hi (f i)) := by unfold own_utf; rw [if_neg (by omega), show (2 * i + 1) / 2 = i by omega]
  obtain ⟨T1, X1, e1, st1⟩ := getS2 X0 hx hZ hown (host := "") (Or.inl (ow hw 98 rfl)) Via.refl e0 (G.2.2.2.2.1.ext O0.2) (g := (mkF m 0 #[.val (.ref V), .val (.int (Int32.ofNat i))] [])) rfl (hb hby d23_0)
  refine Gd.go (fun _ w_k => st1 _ (XS.ifYes X1.here hx rfl (pc0 := 3) (pc' := 28) rfl (hb hby d23_3) rfl ((if0 _ _).trans (feq (by decide)).2) (by decide) (by decide) w_k)) ?_
  show Gd _ _ _ _ (T1.setTop (mkF m 28 #[.val (.ref V), .val (.int (Int32.ofNat i))] []))
  refine Gd.go (fun _ w_k => XS.iloadN X1.here hx rfl (hb hby d23_28) rfl (XS.iconst X1.here hx rfl (hb hby d23_29) (XS.ishl X1.here hx rfl (hb hby d23_30) rfl w_k))) ?_
  show Gd _ _ _ _ (T1.setTop (mkF m 31 #[.val (.ref V), .val (.int (Int32.ofNat i))] [(.int ((Int32.ofNat i) <<< ((1 : Int32) &&& 31)))]))
  rw [own_shl1 (by omega)]
  show Gd _ _ _ _ (T1.setTop (mkF m 31 #[.val (.ref V), .val (.int (Int32.ofNat i))] [(.int (Int32.ofNat (2 * i)))]))
  refine Gd.go (fun _ w_k => XS.istoreN X1.here hx rfl (hb hby d23_31) rfl (l' := #[.val (.ref V), .val (.int (Int32.ofNat (2 * i)))]) rfl (XS.aloadN X1.here hx rfl (hb hby d23_32) rfl rfl (XS.iloadN X1.here hx rfl (hb hby d23_33) rfl (XS.iinc X1.here hx rfl (hb hby d23_34) rfl (l' := #[.val (.ref V), .val (.int ((Int32.ofNat (2 * i)) + (1 : Int32)))]) rfl w_k)))) ?_
  show Gd _ _ _ _ (T1.setTop (mkF m 37 #[.val (.ref V), .val (.int ((Int32.ofNat (2 * i)) + (1 : Int32)))] [(.int (Int32.ofNat (2 * i))), (.ref V)]))
  rw [own_incN]
  show Gd _ _ _ _ (T1.setTop (mkF m 37 #[.val (.ref V), .val (.int (Int32.ofNat (2 * i + 1)))] [(.int (Int32.ofNat (2 * i))), (.ref V)]))
  refine Gd.go (fun _ w_k => own_ldB X1 hx hZ e1 A0 (j := (Int32.ofNat (2 * i))) (by rw [own_ofN (by omega)]; omega) (by rw [own_ofN (by omega)]; omega) (v := (.int (own_bt (f i)))) (by rw [own_ofC (by omega)]; exact ul) (g := (mkF m 37 #[.val (.ref V), .val (.int (Int32.ofNat (2 * i + 1)))] [(.int (Int32.ofNat (2 * i))), (.ref V)])) rfl rfl (hb hby d23_37) _ (XS.sipush X1.here hx rfl (hb hby d23_38) (XS.iand X1.here hx rfl (hb hby d23_41) rfl w_k))) ?_
  show Gd _ _ _ _ (T1.setTop (mkF m 42 #[.val (.ref V), .val (.int (Int32.ofNat (2 * i + 1)))] [(.int ((own_bt (f i)) &&& (255 : Int32)))]))
  obtain ⟨T2, X2, e2, st2⟩ := getS2 X1 hx hZ hown (host := "") (Or.inl (ow hw 99 rfl)) Via.refl e1 (G.2.2.2.2.2.1.ext O0.2) (g := (mkF m 42 #[.val (.ref V), .val (.int (Int32.ofNat (2 * i + 1)))] [(.int ((own_bt (f i)) &&& (255 : Int32)))])) rfl (hb hby d23_42)
  refine Gd.go (fun _ w_k => st2 _ (XS.ishl X2.here hx rfl (hb hby d23_45) rfl (XS.aloadN X2.here hx rfl (hb hby d23_46) rfl rfl (XS.iloadN X2.here hx rfl (hb hby d23_47) rfl (own_ldB X2 hx hZ e2 A0 (j := (Int32.ofNat (2 * i + 1))) (by rw [own_ofN (by omega)]; omega) (by rw [own_ofN (by omega)]; omega) (v := (.int (own_hi (f i)))) (by rw [own_ofC (by omega)]; exact uh) (g := (mkF m 48 #[.val (.ref V), .val (.int (Int32.ofNat (2 * i + 1)))] [(.int (Int32.ofNat (2 * i + 1))), (.ref V), (.int (((own_bt (f i)) &&& (255 : Int32)) <<< ((0 : Int32) &&& 31)))])) rfl rfl (hb hby d23_48) _ (XS.sipush X2.here hx rfl (hb hby d23_49) (XS.iand X2.here hx rfl (hb hby d23_52) rfl w_k))))))) ?_
  show Gd _ _ _ _ (T2.setTop (mkF m 53 #[.val (.ref V), .val (.int (Int32.ofNat (2 * i + 1)))] [(.int ((own_hi (f i)) &&& (255 : Int32))), (.int (((own_bt (f i)) &&& (255 : Int32)) <<< ((0 : Int32) &&& 31)))]))
  obtain ⟨T3, X3, e3, st3⟩ := getS2 X2 hx hZ hown (host := "") (Or.inl (ow hw 100 rfl)) Via.refl e2 (G.2.2.2.2.2.2.ext O0.2) (g := (mkF m 53 #[.val (.ref V), .val (.int (Int32.ofNat (2 * i + 1)))] [(.int ((own_hi (f i)) &&& (255 : Int32))), (.int (((own_bt (f i)) &&& (255 : Int32)) <<< ((0 : Int32) &&& 31)))])) rfl (hb hby d23_53)
  refine Gd.go (fun _ w_k => st3 _ (XS.ishl X3.here hx rfl (hb hby d23_56) rfl (XS.ior X3.here hx rfl (hb hby d23_57) rfl w_k))) ?_
  show Gd _ _ _ _ (T3.setTop (mkF m 58 #[.val (.ref V), .val (.int (Int32.ofNat (2 * i + 1)))] [(.int ((((own_bt (f i)) &&& (255 : Int32)) <<< ((0 : Int32) &&& 31)) ||| (((own_hi (f i)) &&& (255 : Int32)) <<< ((8 : Int32) &&& 31))))]))
  rw [own_getU g2]
  show Gd _ _ _ _ (T3.setTop (mkF m 58 #[.val (.ref V), .val (.int (Int32.ofNat (2 * i + 1)))] [(.int (Int32.ofNat (f i)))]))
  refine Gd.go (fun _ w_k => XS.i2c X3.here hx rfl (hb hby d23_58) rfl w_k) ?_
  show Gd _ _ _ _ (T3.setTop (mkF m 59 #[.val (.ref V), .val (.int (Int32.ofNat (2 * i + 1)))] [(.int ((Int32.ofNat (f i)).toUInt32.toUInt16.toUInt32.toInt32))]))
  rw [own_i2c g2]
  show Gd _ _ _ _ (T3.setTop (mkF m 59 #[.val (.ref V), .val (.int (Int32.ofNat (2 * i + 1)))] [(.int (Int32.ofNat (f i)))]))
  refine own_retN (t := .char) X3 hx hret hlk (by simp) (hb hby d23_59) ?_ (by decide) (by decide)
  exact ⟨congrArg (fun q => some (Value.int q)) (own_i2c g2), e3, rfl⟩
theorem own_pn9 : plainFor (⟨"java/lang/StringUTF16", "charAt", "([BI)C"⟩ : MethodName) = true := by first | exact plainFor_of_name (by first | (simp [plainName, overriddenIn, x]; done) | decide +kernel) | decide +kernel
theorem ef_24 (m : MethodId) (q0 : Addr) (q1 : Int32) : entryFrame m #[(.ref q0), (.int q1)] 2 = mkF m 0 #[.val (.ref q0), .val (.int q1)] [] := by first | (simp [entryFrame, mkF, argsToLocals, Value.category, maxLocals]; done) | rfl
theorem d24_0 : decode jdk_52_method_83_code 0 = .ok (.iload_n 1, 1) := by decide +kernel
theorem d24_1 : decode jdk_52_method_83_code 1 = .ok (.aload_n 0, 1) := by decide +kernel
theorem own_pd4 : parseMethodDescriptor "(I[B)V" = some ⟨[.int, (.array .byte)], none⟩ := by decide +kernel
theorem d24_2 : decode jdk_52_method_83_code 2 = .ok (.invokestatic 67, 3) := by decide +kernel
theorem d24_5 : decode jdk_52_method_83_code 5 = .ok (.aload_n 0, 1) := by decide +kernel
theorem d24_6 : decode jdk_52_method_83_code 6 = .ok (.iload_n 1, 1) := by decide +kernel
theorem own_pd5 : parseMethodDescriptor "([BI)C" = some ⟨[(.array .byte), .int], some .char⟩ := by decide +kernel
theorem d24_7 : decode jdk_52_method_83_code 7 = .ok (.invokestatic 71, 3) := by decide +kernel
theorem d24_10 : decode jdk_52_method_83_code 10 = .ok (.ireturn, 1) := by decide +kernel
set_option maxRecDepth 65536 in
set_option maxHeartbeats 40000000 in
theorem own_c24 (l : Launch) (Z : State) (a0 : Array Value) (hw : ∀ d ∈ tables_1, d.before a0 Z = true) (cs : Int32) (gv : Value) (G : own_G Z cs gv) (h0 : Heap) (n0 : Nat) (O0 : Old Z n0 h0) (V : Addr) (n : Nat) (f : Nat → Nat) (hn : n < 2 ^ 20) (A0 : ArF Z h0 V .byte (2 * n) (own_utf f)) (i : Nat) (g1 : i < n) (g2 : f i < 65536) :
    Con l Z (⟨"java/lang/StringUTF16", "charAt", "([BI)C"⟩ : MethodName) jdk_52_method_83_code 2 (some .char) [] ({ frames := 3, cells := 0, slots := 0, locals := 40 } : Room) 0 0 #[(.ref V), (.int (Int32.ofNat i))] h0 (fun r h L => r = some (.int (Int32.ofNat (f i))) ∧ h = h0 ∧ L = []) := by
  refine Con.of own_pn9 ?_
  intro pg ev s_ m bl mt cd s₁ hx hby hml hown hnm hret hlk hZ X0 e0
  rw [ef_24]
  show Gd _ _ _ _ (s₁.setTop (mkF m 0 #[.val (.ref V), .val (.int (Int32.ofNat i))] []))
  refine Gd.go (fun _ w_k => XS.iloadN X0.here hx rfl (hb hby d24_0) rfl (XS.aloadN X0.here hx rfl (hb hby d24_1) rfl rfl w_k)) ?_
  show Gd _ _ _ _ (s₁.setTop (mkF m 2 #[.val (.ref V), .val (.int (Int32.ofNat i))] [(.ref V), (.int (Int32.ofNat i))]))
  obtain ⟨T1, X1, e1, st1⟩ := own_callSP X0 hx hZ (y := (⟨"java/lang/StringUTF16", "checkIndex", "(I[B)V"⟩ : MethodName)) hown (ow hw 107 rfl) (ow hw 108 rfl) (ow hw 44 rfl) (ow hw 109 rfl) (by decide) (W := 0) (own_c25 l Z a0 hw cs gv G h0 n0 O0 V n (own_utf f) hn A0 i g1) rfl rfl e0 (by decide) (by decide) (g := (mkF m 2 #[.val (.ref V), .val (.int (Int32.ofNat i))] [(.ref V), (.int (Int32.ofNat i))])) rfl (by rw [hml]; rfl) (argsL := [(.int (Int32.ofNat i)), (.ref V)]) (rest := []) (lenOf own_pd4 rfl) rfl (Nat.le_of_eq rfl) (hb hby d24_2) rfl
  refine Gd.go (fun _ w_k => st1 _ (XS.aloadN X1.here hx rfl (hb hby d24_5) rfl rfl (XS.iloadN X1.here hx rfl (hb hby d24_6) rfl w_k))) ?_
  show Gd _ _ _ _ (T1.setTop (mkF m 7 #[.val (.ref V), .val (.int (Int32.ofNat i))] [(.int (Int32.ofNat i)), (.ref V)]))
  obtain ⟨T2, X2, e2, st2⟩ := own_callSP X1 hx hZ (y := (⟨"java/lang/StringUTF16", "getChar", "([BI)C"⟩ : MethodName)) hown (ow hw 101 rfl) (ow hw 102 rfl) (ow hw 44 rfl) (ow hw 103 rfl) (by decide) (W := 0) (own_c23 l Z a0 hw cs gv G h0 n0 O0 V n f hn A0 i g1 g2) rfl rfl e1 (by decide) (by decide) (g := (mkF m 7 #[.val (.ref V), .val (.int (Int32.ofNat i))] [(.int (Int32.ofNat i)), (.ref V)])) rfl (by rw [hml]; rfl) (argsL := [(.ref V), (.int (Int32.ofNat i))]) (rest := []) (lenOf own_pd5 rfl) rfl (Nat.le_of_eq rfl) (hb hby d24_7) rfl
  refine Gd.go (fun _ w_k => st2 _ w_k) ?_
  show Gd _ _ _ _ (T2.setTop (mkF m 10 #[.val (.ref V), .val (.int (Int32.ofNat i))] [(.int (Int32.ofNat (f i)))]))
  refine own_retN (t := .char) X2 hx hret hlk (by simp) (hb hby d24_10) ?_ (by decide) (by decide)
  exact ⟨congrArg (fun q => some (Value.int q)) (own_i2c g2), e2, rfl⟩
theorem own_pn10 : plainFor (⟨"java/lang/String", "charAt", "(I)C"⟩ : MethodName) = true := by first | exact plainFor_of_name (by first | (simp [plainName, overriddenIn, x]; done) | decide +kernel) | decide +kernel
theorem ef_12 (m : MethodId) (q0 : Addr) (q1 : Int32) : entryFrame m #[(.ref q0), (.int q1)] 2 = mkF m 0 #[.val (.ref q0), .val (.int q1)] [] := by first | (simp [entryFrame, mkF, argsToLocals, Value.category, maxLocals]; done) | rfl
theorem d12_0 : decode jdk_42_method_56_code 0 = .ok (.aload_n 0, 1) := by decide +kernel
theorem own_pd6 : parseMethodDescriptor "()Z" = some ⟨[], some .boolean⟩ := by decide +kernel
theorem d12_1 : decode jdk_42_method_56_code 1 = .ok (.invokevirtual 492, 3) := by decide +kernel
theorem d12_4 : decode jdk_42_method_56_code 4 = .ok (.ifCond .eq 12, 3) := by decide +kernel
theorem d12_7 : decode jdk_42_method_56_code 7 = .ok (.aload_n 0, 1) := by decide +kernel
theorem d12_8 : decode jdk_42_method_56_code 8 = .ok (.getfield 9, 3) := by decide +kernel
theorem d12_11 : decode jdk_42_method_56_code 11 = .ok (.iload_n 1, 1) := by decide +kernel
theorem d12_12 : decode jdk_42_method_56_code 12 = .ok (.invokestatic 495, 3) := by decide +kernel
theorem d12_15 : decode jdk_42_method_56_code 15 = .ok (.ireturn, 1) := by decide +kernel
set_option maxRecDepth 65536 in
set_option maxHeartbeats 40000000 in
theorem own_c12_0 (l : Launch) (Z : State) (a0 : Array Value) (hw : ∀ d ∈ tables_1, d.before a0 Z = true) (cs : Int32) (gv : Value) (G : own_G Z cs gv) (h0 : Heap) (n0 : Nat) (O0 : Old Z n0 h0) (t V : Addr) (n : Nat) (f : Nat → Nat) (hn : n < 2 ^ 20) (H : own_T Z h0 (0 : Int32) t V n (own_lat f)) (i : Nat) (g1 : i < n) (g2 : f i < 256) :
    Con l Z (⟨"java/lang/String", "charAt", "(I)C"⟩ : MethodName) jdk_42_method_56_code 2 (some .char) [] ({ frames := 4, cells := 0, slots := 0, locals := 53 } : Room) 0 0 #[(.ref t), (.int (Int32.ofNat i))] h0 (fun r h L => r = some (.int (Int32.ofNat (f i))) ∧ h = h0 ∧ L = []) := by
  refine Con.of own_pn10 ?_
  intro pg ev s_ m bl mt cd s₁ hx hby hml hown hnm hret hlk hZ X0 e0
  rw [ef_12]
  show Gd _ _ _ _ (s₁.setTop (mkF m 0 #[.val (.ref t), .val (.int (Int32.ofNat i))] []))
  refine Gd.go (fun _ w_k => XS.aloadN X0.here hx rfl (hb hby d12_0) rfl rfl w_k) ?_
  show Gd _ _ _ _ (s₁.setTop (mkF m 1 #[.val (.ref t), .val (.int (Int32.ofNat i))] [(.ref t)]))
  obtain ⟨T1, X1, e1, st1⟩ := own_callVP X0 hx hZ (C := "java/lang/String") (y := (⟨"java/lang/String", "isLatin1", "()Z"⟩ : MethodName)) hown (ow hw 60 rfl) (ow hw 61 rfl) (ow hw 63 rfl) (ow hw 62 rfl) (ow hw 8 rfl) (ow hw 64 rfl) (by decide) H.1 (W := 0) (own_c13_0 l Z a0 hw cs gv G h0 n0 O0 t V n f hn H) rfl rfl e0 (by decide) (by decide) (g := (mkF m 1 #[.val (.ref t), .val (.int (Int32.ofNat i))] [(.ref t)])) rfl (by rw [hml]; rfl) (argsL := []) (rest := []) (lenOf own_pd6 rfl) rfl (Nat.le_of_eq rfl) (hb hby d12_1) rfl
  refine Gd.go (fun _ w_k => st1 _ (XS.ifNo X1.here hx rfl (hb hby d12_4) rfl ((if0 _ _).trans (feq (by decide)).1) w_k)) ?_
  show Gd _ _ _ _ (T1.setTop (mkF m 7 #[.val (.ref t), .val (.int (Int32.ofNat i))] []))
  refine Gd.go (fun _ w_k => XS.aloadN X1.here hx rfl (hb hby d12_7) rfl rfl w_k) ?_
  show Gd _ _ _ _ (T1.setTop (mkF m 8 #[.val (.ref t), .val (.int (Int32.ofNat i))] [(.ref t)]))
  obtain ⟨T2, X2, e2, st2⟩ := getF X1 hx hZ hown (host := "") (Or.inl (ow hw 25 rfl)) Via.refl e1 H.2.1 (g := (mkF m 8 #[.val (.ref t), .val (.int (Int32.ofNat i))] [(.ref t)])) rfl rfl (hb hby d12_8)
  refine Gd.go (fun _ w_k => st2 _ (XS.iloadN X2.here hx rfl (hb hby d12_11) rfl w_k)) ?_
  show Gd _ _ _ _ (T2.setTop (mkF m 12 #[.val (.ref t), .val (.int (Int32.ofNat i))] [(.int (Int32.ofNat i)), (.ref V)]))
  obtain ⟨T3, X3, e3, st3⟩ := own_callSP X2 hx hZ (y := (⟨"java/lang/StringLatin1", "charAt", "([BI)C"⟩ : MethodName)) hown (ow hw 65 rfl) (ow hw 66 rfl) (ow hw 67 rfl) (ow hw 68 rfl) (by decide) (W := 0) (own_c14 l Z a0 hw cs gv G h0 n0 O0 V n f hn H.2.2.2 i g1 g2) rfl rfl e2 (by decide) (by decide) (g := (mkF m 12 #[.val (.ref t), .val (.int (Int32.ofNat i))] [(.int (Int32.ofNat i)), (.ref V)])) rfl (by rw [hml]; rfl) (argsL := [(.ref V), (.int (Int32.ofNat i))]) (rest := []) (lenOf own_pd5 rfl) rfl (Nat.le_of_eq rfl) (hb hby d12_12) rfl
  refine Gd.go (fun _ w_k => st3 _ w_k) ?_
  show Gd _ _ _ _ (T3.setTop (mkF m 15 #[.val (.ref t), .val (.int (Int32.ofNat i))] [(.int (Int32.ofNat (f i)))]))
  refine own_retN (t := .char) X3 hx hret hlk (by simp) (hb hby d12_15) ?_ (by decide) (by decide)
  exact ⟨congrArg (fun q => some (Value.int q)) (own_i2c (by omega)), e3, rfl⟩
theorem d12_16 : decode jdk_42_method_56_code 16 = .ok (.aload_n 0, 1) := by decide +kernel
theorem d12_17 : decode jdk_42_method_56_code 17 = .ok (.getfield 9, 3) := by decide +kernel
theorem d12_20 : decode jdk_42_method_56_code 20 = .ok (.iload_n 1, 1) := by decide +kernel
theorem d12_21 : decode jdk_42_method_56_code 21 = .ok (.invokestatic 498, 3) := by decide +kernel
theorem d12_24 : decode jdk_42_method_56_code 24 = .ok (.ireturn, 1) := by decide +kernel
set_option maxRecDepth 65536 in
set_option maxHeartbeats 40000000 in
theorem own_c12_1 (l : Launch) (Z : State) (a0 : Array Value) (hw : ∀ d ∈ tables_1, d.before a0 Z = true) (cs : Int32) (gv : Value) (G : own_G Z cs gv) (h0 : Heap) (n0 : Nat) (O0 : Old Z n0 h0) (t V : Addr) (n : Nat) (f : Nat → Nat) (hn : n < 2 ^ 20) (H : own_T Z h0 (1 : Int32) t V (2 * n) (own_utf f)) (i : Nat) (g1 : i < n) (g2 : f i < 65536) :
    Con l Z (⟨"java/lang/String", "charAt", "(I)C"⟩ : MethodName) jdk_42_method_56_code 2 (some .char) [] ({ frames := 4, cells := 0, slots := 0, locals := 53 } : Room) 0 0 #[(.ref t), (.int (Int32.ofNat i))] h0 (fun r h L => r = some (.int (Int32.ofNat (f i))) ∧ h = h0 ∧ L = []) := by
  refine Con.of own_pn10 ?_
  intro pg ev s_ m bl mt cd s₁ hx hby hml hown hnm hret hlk hZ X0 e0
  rw [ef_12]
  show Gd _ _ _ _ (s₁.setTop (mkF m 0 #[.val (.ref t), .val (.int (Int32.ofNat i))] []))
  refine Gd.go (fun _ w_k => XS.aloadN X0.here hx rfl (hb hby d12_0) rfl rfl w_k) ?_
  show Gd _ _ _ _ (s₁.setTop (mkF m 1 #[.val (.ref t), .val (.int (Int32.ofNat i))] [(.ref t)]))
  obtain ⟨T1, X1, e1, st1⟩ := own_callVP X0 hx hZ (C := "java/lang/String") (y := (⟨"java/lang/String", "isLatin1", "()Z"⟩ : MethodName)) hown (ow hw 60 rfl) (ow hw 61 rfl) (ow hw 63 rfl) (ow hw 62 rfl) (ow hw 8 rfl) (ow hw 64 rfl) (by decide) H.1 (W := 0) (own_c13_1 l Z a0 hw cs gv G h0 n0 O0 t V n f hn H) rfl rfl e0 (by decide) (by decide) (g := (mkF m 1 #[.val (.ref t), .val (.int (Int32.ofNat i))] [(.ref t)])) rfl (by rw [hml]; rfl) (argsL := []) (rest := []) (lenOf own_pd6 rfl) rfl (Nat.le_of_eq rfl) (hb hby d12_1) rfl
  refine Gd.go (fun _ w_k => st1 _ (XS.ifYes X1.here hx rfl (pc0 := 4) (pc' := 16) rfl (hb hby d12_4) rfl ((if0 _ _).trans (teq (by decide)).1) (by decide) (by decide) w_k)) ?_
  show Gd _ _ _ _ (T1.setTop (mkF m 16 #[.val (.ref t), .val (.int (Int32.ofNat i))] []))
  refine Gd.go (fun _ w_k => XS.aloadN X1.here hx rfl (hb hby d12_16) rfl rfl w_k) ?_
  show Gd _ _ _ _ (T1.setTop (mkF m 17 #[.val (.ref t), .val (.int (Int32.ofNat i))] [(.ref t)]))
  obtain ⟨T2, X2, e2, st2⟩ := getF X1 hx hZ hown (host := "") (Or.inl (ow hw 25 rfl)) Via.refl e1 H.2.1 (g := (mkF m 17 #[.val (.ref t), .val (.int (Int32.ofNat i))] [(.ref t)])) rfl rfl (hb hby d12_17)
  refine Gd.go (fun _ w_k => st2 _ (XS.iloadN X2.here hx rfl (hb hby d12_20) rfl w_k)) ?_
  show Gd _ _ _ _ (T2.setTop (mkF m 21 #[.val (.ref t), .val (.int (Int32.ofNat i))] [(.int (Int32.ofNat i)), (.ref V)]))
  obtain ⟨T3, X3, e3, st3⟩ := own_callSP X2 hx hZ (y := (⟨"java/lang/StringUTF16", "charAt", "([BI)C"⟩ : MethodName)) hown (ow hw 104 rfl) (ow hw 105 rfl) (ow hw 44 rfl) (ow hw 106 rfl) (by decide) (W := 0) (own_c24 l Z a0 hw cs gv G h0 n0 O0 V n f hn H.2.2.2 i g1 g2) rfl rfl e2 (by decide) (by decide) (g := (mkF m 21 #[.val (.ref t), .val (.int (Int32.ofNat i))] [(.int (Int32.ofNat i)), (.ref V)])) rfl (by rw [hml]; rfl) (argsL := [(.ref V), (.int (Int32.ofNat i))]) (rest := []) (lenOf own_pd5 rfl) rfl (Nat.le_of_eq rfl) (hb hby d12_21) rfl
  refine Gd.go (fun _ w_k => st3 _ w_k) ?_
  show Gd _ _ _ _ (T3.setTop (mkF m 24 #[.val (.ref t), .val (.int (Int32.ofNat i))] [(.int (Int32.ofNat (f i)))]))
  refine own_retN (t := .char) X3 hx hret hlk (by simp) (hb hby d12_24) ?_ (by decide) (by decide)
  exact ⟨congrArg (fun q => some (Value.int q)) (own_i2c (by omega)), e3, rfl⟩
def own_ctl (c : Nat) : Bool := decide (c ≤ 31) || (decide (127 ≤ c) && decide (c ≤ 159))
def own_any : Nat → (Nat → Nat) → Bool
  | 0, _ => false
  | n + 1, f => own_any n f || own_ctl (f n)
theorem own_ctlE {c : Nat} : own_ctl c = true ↔ c ≤ 31 ∨ (127 ≤ c ∧ c ≤ 159) := by unfold own_ctl; simp
theorem own_ltL {c : Nat} (h : c < 65536) (k : Nat) (hk : k < 65536) {K : Int32} (e : K.toInt = k) : Int32.ofNat c < K ↔ c < k := by rw [Int32.lt_iff_toInt_lt, own_ofN (by omega), e]; omega
theorem own_gtL {c : Nat} (h : c < 65536) (k : Nat) (hk : k < 65536) {K : Int32} (e : K.toInt = k) : K < Int32.ofNat c ↔ k < c := by rw [Int32.lt_iff_toInt_lt, own_ofN (by omega), e]; omega
theorem own_sh5 {c : Nat} (h : c < 65536) : (((Int32.ofNat c).toUInt32 >>> ((5 : Int32) &&& 31).toUInt32).toInt32) = 0 ↔ c ≤ 31 := by
  have a := c_iushr (Int32.ofNat c) 5 5 (by decide) (by decide)
  rw [own_ofN (by omega)] at a
  have e : ((2 ^ 5 : Nat) : Int) = 32 := rfl
  rw [e] at a
  have z : (0 : Int32).toInt = 0 := rfl
  constructor
  · intro q; rw [q, z] at a; omega
  · intro q; apply Int32.toInt_inj.mp; rw [a, z]; omega
theorem own_pn11 : plainFor (⟨"java/lang/Character", "isISOControl", "(I)Z"⟩ : MethodName) = true := by first | exact plainFor_of_name (by first | (simp [plainName, overriddenIn, x]; done) | decide +kernel) | decide +kernel
theorem ef_18 (m : MethodId) (q0 : Int32) : entryFrame m #[(.int q0)] 1 = mkF m 0 #[.val (.int q0)] [] := by first | (simp [entryFrame, mkF, argsToLocals, Value.category, maxLocals]; done) | rfl
theorem d18_0 : decode jdk_89_method_89_code 0 = .ok (.iload_n 0, 1) := by decide +kernel
theorem d18_1 : decode jdk_89_method_89_code 1 = .ok (.sipush 159, 3) := by decide +kernel
theorem d18_4 : decode jdk_89_method_89_code 4 = .ok (.if_icmp .gt 19, 3) := by decide +kernel
theorem d18_23 : decode jdk_89_method_89_code 23 = .ok (.iconst 0, 1) := by decide +kernel
theorem d18_24 : decode jdk_89_method_89_code 24 = .ok (.ireturn, 1) := by decide +kernel
theorem d18_7 : decode jdk_89_method_89_code 7 = .ok (.iload_n 0, 1) := by decide +kernel
theorem d18_8 : decode jdk_89_method_89_code 8 = .ok (.bipush 127, 2) := by decide +kernel
theorem d18_10 : decode jdk_89_method_89_code 10 = .ok (.if_icmp .ge 9, 3) := by decide +kernel
theorem d18_13 : decode jdk_89_method_89_code 13 = .ok (.iload_n 0, 1) := by decide +kernel
theorem d18_14 : decode jdk_89_method_89_code 14 = .ok (.iconst 5, 1) := by decide +kernel
theorem d18_15 : decode jdk_89_method_89_code 15 = .ok (.iushr, 1) := by decide +kernel
theorem d18_16 : decode jdk_89_method_89_code 16 = .ok (.ifCond .ne 7, 3) := by decide +kernel
theorem d18_19 : decode jdk_89_method_89_code 19 = .ok (.iconst 1, 1) := by decide +kernel
theorem d18_20 : decode jdk_89_method_89_code 20 = .ok (.goto 4, 3) := by decide +kernel
set_option maxRecDepth 65536 in
set_option maxHeartbeats 40000000 in
theorem own_c18 (l : Launch) (Z : State) (a0 : Array Value) (hw : ∀ d ∈ tables_1, d.before a0 Z = true) (c : Nat) (hc : c < 65536) (h0 : Heap) :
    Con l Z (⟨"java/lang/Character", "isISOControl", "(I)Z"⟩ : MethodName) jdk_89_method_89_code 1 (some .boolean) [] ({ frames := 0, cells := 0, slots := 0, locals := 0 } : Room) 0 0 #[(.int (Int32.ofNat c))] h0 (fun r h L => r = some (.int (bI (own_ctl c = true))) ∧ h = h0 ∧ L = []) := by
  refine Con.of own_pn11 ?_
  intro pg ev s_ m bl mt cd s₁ hx hby hml hown hnm hret hlk hZ X0 e0
  rw [ef_18]
  show Gd _ _ _ _ (s₁.setTop (mkF m 0 #[.val (.int (Int32.ofNat c))] []))
  refine Gd.go (fun _ w_k => XS.iloadN X0.here hx rfl (hb hby d18_0) rfl (XS.sipush X0.here hx rfl (hb hby d18_1) w_k)) ?_
  show Gd _ _ _ _ (s₁.setTop (mkF m 4 #[.val (.int (Int32.ofNat c))] [(.int (159 : Int32)), (.int (Int32.ofNat c))]))
  by_cases w1 : 159 < c
  · refine Gd.go (fun _ w_k => XS.icmpYes X0.here hx rfl (pc0 := 4) (pc' := 23) rfl (hb hby d18_4) rfl (tlt ((own_gtL hc 159 (by decide) rfl).mpr w1)).2.2.1 (by decide) (by decide) w_k) ?_
    show Gd _ _ _ _ (s₁.setTop (mkF m 23 #[.val (.int (Int32.ofNat c))] []))
    refine Gd.go (fun _ w_k => XS.iconst X0.here hx rfl (hb hby d18_23) w_k) ?_
    show Gd _ _ _ _ (s₁.setTop (mkF m 24 #[.val (.int (Int32.ofNat c))] [(.int (0 : Int32))]))
    refine own_retN (t := .boolean) X0 hx hret hlk (by simp) (hb hby d18_24) ?_ (by decide) (by decide)
    have e : ¬ own_ctl c = true := by rw [own_ctlE]; omega
    exact ⟨congrArg (fun q => some (Value.int q)) (by rw [bI_z e]; rfl), e0, rfl⟩
  · refine Gd.go (fun _ w_k => XS.icmpNo X0.here hx rfl (hb hby d18_4) rfl (flt (fun q => w1 ((own_gtL hc 159 (by decide) rfl).mp q))).2.2.1 w_k) ?_
    show Gd _ _ _ _ (s₁.setTop (mkF m 7 #[.val (.int (Int32.ofNat c))] []))
    refine Gd.go (fun _ w_k => XS.iloadN X0.here hx rfl (hb hby d18_7) rfl (XS.bipush X0.here hx rfl (hb hby d18_8) w_k)) ?_
    show Gd _ _ _ _ (s₁.setTop (mkF m 10 #[.val (.int (Int32.ofNat c))] [(.int (127 : Int32)), (.int (Int32.ofNat c))]))
    by_cases w2 : c < 127
    · refine Gd.go (fun _ w_k => XS.icmpNo X0.here hx rfl (hb hby d18_10) rfl (tlt ((own_ltL hc 127 (by decide) rfl).mpr w2)).2.1 w_k) ?_
      show Gd _ _ _ _ (s₁.setTop (mkF m 13 #[.val (.int (Int32.ofNat c))] []))
      refine Gd.go (fun _ w_k => XS.iloadN X0.here hx rfl (hb hby d18_13) rfl (XS.iconst X0.here hx rfl (hb hby d18_14) (XS.iushr X0.here hx rfl (hb hby d18_15) rfl w_k))) ?_
      show Gd _ _ _ _ (s₁.setTop (mkF m 16 #[.val (.int (Int32.ofNat c))] [(.int (((Int32.ofNat c).toUInt32 >>> ((5 : Int32) &&& 31).toUInt32).toInt32))]))
      by_cases w3 : c ≤ 31
      · refine Gd.go (fun _ w_k => XS.ifNo X0.here hx rfl (hb hby d18_16) rfl ((if0 _ _).trans (teq ((own_sh5 hc).mpr w3)).2) w_k) ?_
        show Gd _ _ _ _ (s₁.setTop (mkF m 19 #[.val (.int (Int32.ofNat c))] []))
        refine Gd.go (fun _ w_k => XS.iconst X0.here hx rfl (hb hby d18_19) (XS.goto X0.here hx rfl (pc0 := 20) (pc' := 24) rfl (hb hby d18_20) (by decide) (by decide) w_k)) ?_
        show Gd _ _ _ _ (s₁.setTop (mkF m 24 #[.val (.int (Int32.ofNat c))] [(.int (1 : Int32))]))
        refine own_retN (t := .boolean) X0 hx hret hlk (by simp) (hb hby d18_24) ?_ (by decide) (by decide)
        have e : own_ctl c = true := by rw [own_ctlE]; omega
        exact ⟨congrArg (fun q => some (Value.int q)) (by rw [bI_o e]; rfl), e0, rfl⟩
      · refine Gd.go (fun _ w_k => XS.ifYes X0.here hx rfl (pc0 := 16) (pc' := 23) rfl (hb hby d18_16) rfl ((if0 _ _).trans (feq (fun q => w3 ((own_sh5 hc).mp q))).2) (by decide) (by decide) w_k) ?_
        show Gd _ _ _ _ (s₁.setTop (mkF m 23 #[.val (.int (Int32.ofNat c))] []))
        refine Gd.go (fun _ w_k => XS.iconst X0.here hx rfl (hb hby d18_23) w_k) ?_
        show Gd _ _ _ _ (s₁.setTop (mkF m 24 #[.val (.int (Int32.ofNat c))] [(.int (0 : Int32))]))
        refine own_retN (t := .boolean) X0 hx hret hlk (by simp) (hb hby d18_24) ?_ (by decide) (by decide)
        have e : ¬ own_ctl c = true := by rw [own_ctlE]; omega
        exact ⟨congrArg (fun q => some (Value.int q)) (by rw [bI_z e]; rfl), e0, rfl⟩
    · refine Gd.go (fun _ w_k => XS.icmpYes X0.here hx rfl (pc0 := 10) (pc' := 19) rfl (hb hby d18_10) rfl (flt (fun q => w2 ((own_ltL hc 127 (by decide) rfl).mp q))).2.1 (by decide) (by decide) w_k) ?_
      show Gd _ _ _ _ (s₁.setTop (mkF m 19 #[.val (.int (Int32.ofNat c))] []))
      refine Gd.go (fun _ w_k => XS.iconst X0.here hx rfl (hb hby d18_19) (XS.goto X0.here hx rfl (pc0 := 20) (pc' := 24) rfl (hb hby d18_20) (by decide) (by decide) w_k)) ?_
      show Gd _ _ _ _ (s₁.setTop (mkF m 24 #[.val (.int (Int32.ofNat c))] [(.int (1 : Int32))]))
      refine own_retN (t := .boolean) X0 hx hret hlk (by simp) (hb hby d18_24) ?_ (by decide) (by decide)
      have e : own_ctl c = true := by rw [own_ctlE]; omega
      exact ⟨congrArg (fun q => some (Value.int q)) (by rw [bI_o e]; rfl), e0, rfl⟩
theorem own_pn12 : plainFor (⟨"java/lang/Character", "isISOControl", "(C)Z"⟩ : MethodName) = true := by first | exact plainFor_of_name (by first | (simp [plainName, overriddenIn, x]; done) | decide +kernel) | decide +kernel
theorem ef_17 (m : MethodId) (q0 : Int32) : entryFrame m #[(.int q0)] 1 = mkF m 0 #[.val (.int q0)] [] := by first | (simp [entryFrame, mkF, argsToLocals, Value.category, maxLocals]; done) | rfl
theorem d17_0 : decode jdk_89_method_88_code 0 = .ok (.iload_n 0, 1) := by decide +kernel
theorem own_pd7 : parseMethodDescriptor "(I)Z" = some ⟨[.int], some .boolean⟩ := by decide +kernel
theorem d17_1 : decode jdk_89_method_88_code 1 = .ok (.invokestatic 266, 3) := by decide +kernel
theorem d17_4 : decode jdk_89_method_88_code 4 = .ok (.ireturn, 1) := by decide +kernel
set_option maxRecDepth 65536 in
set_option maxHeartbeats 40000000 in
theorem own_c17 (l : Launch) (Z : State) (a0 : Array Value) (hw : ∀ d ∈ tables_1, d.before a0 Z = true) (c : Nat) (hc : c < 65536) (h0 : Heap) :
    Con l Z (⟨"java/lang/Character", "isISOControl", "(C)Z"⟩ : MethodName) jdk_89_method_88_code 1 (some .boolean) [] ({ frames := 1, cells := 0, slots := 0, locals := 12 } : Room) 0 0 #[(.int (Int32.ofNat c))] h0 (fun r h L => r = some (.int (bI (own_ctl c = true))) ∧ h = h0 ∧ L = []) := by
  refine Con.of own_pn12 ?_
  intro pg ev s_ m bl mt cd s₁ hx hby hml hown hnm hret hlk hZ X0 e0
  rw [ef_17]
  show Gd _ _ _ _ (s₁.setTop (mkF m 0 #[.val (.int (Int32.ofNat c))] []))
  refine Gd.go (fun _ w_k => XS.iloadN X0.here hx rfl (hb hby d17_0) rfl w_k) ?_
  show Gd _ _ _ _ (s₁.setTop (mkF m 1 #[.val (.int (Int32.ofNat c))] [(.int (Int32.ofNat c))]))
  obtain ⟨T1, X1, e1, st1⟩ := own_callSP X0 hx hZ (y := (⟨"java/lang/Character", "isISOControl", "(I)Z"⟩ : MethodName)) hown (ow hw 81 rfl) (ow hw 82 rfl) (ow hw 79 rfl) (ow hw 83 rfl) (by decide) (W := 0) (own_c18 l Z a0 hw c hc h0) rfl rfl e0 (by decide) (by decide) (g := (mkF m 1 #[.val (.int (Int32.ofNat c))] [(.int (Int32.ofNat c))])) rfl (by rw [hml]; rfl) (argsL := [(.int (Int32.ofNat c))]) (rest := []) (lenOf own_pd7 rfl) rfl (Nat.le_of_eq rfl) (hb hby d17_1) rfl
  refine Gd.go (fun _ w_k => st1 _ w_k) ?_
  show Gd _ _ _ _ (T1.setTop (mkF m 4 #[.val (.int (Int32.ofNat c))] [(.int (bI (own_ctl c = true)))]))
  refine own_retN (t := .boolean) X1 hx hret hlk (by simp) (hb hby d17_4) ?_ (by decide) (by decide)
  exact ⟨congrArg (fun q => some (Value.int q)) nar_b, e1, rfl⟩
theorem own_pn13 : plainFor (⟨"com/example/yuletally/yuletally/ScreenLinesHoldsControlPinLaw", "ctl", "(C)Z"⟩ : MethodName) = true := by first | exact plainFor_of_name (by first | (simp [plainName, overriddenIn, x]; done) | decide +kernel) | decide +kernel
theorem ef_11 (m : MethodId) (q0 : Int32) : entryFrame m #[(.int q0)] 1 = mkF m 0 #[.val (.int q0)] [] := by first | (simp [entryFrame, mkF, argsToLocals, Value.category, maxLocals]; done) | rfl
theorem d11_0 : decode method_2_code 0 = .ok (.iload_n 0, 1) := by decide +kernel
theorem d11_1 : decode method_2_code 1 = .ok (.bipush 31, 2) := by decide +kernel
theorem d11_3 : decode method_2_code 3 = .ok (.if_icmp .le 16, 3) := by decide +kernel
theorem d11_6 : decode method_2_code 6 = .ok (.iload_n 0, 1) := by decide +kernel
theorem d11_7 : decode method_2_code 7 = .ok (.bipush 127, 2) := by decide +kernel
theorem d11_9 : decode method_2_code 9 = .ok (.if_icmp .lt 14, 3) := by decide +kernel
theorem d11_23 : decode method_2_code 23 = .ok (.iconst 0, 1) := by decide +kernel
theorem d11_24 : decode method_2_code 24 = .ok (.ireturn, 1) := by decide +kernel
theorem d11_12 : decode method_2_code 12 = .ok (.iload_n 0, 1) := by decide +kernel
theorem d11_13 : decode method_2_code 13 = .ok (.sipush 159, 3) := by decide +kernel
theorem d11_16 : decode method_2_code 16 = .ok (.if_icmp .gt 7, 3) := by decide +kernel
theorem d11_19 : decode method_2_code 19 = .ok (.iconst 1, 1) := by decide +kernel
theorem d11_20 : decode method_2_code 20 = .ok (.goto 4, 3) := by decide +kernel
set_option maxRecDepth 65536 in
set_option maxHeartbeats 40000000 in
theorem own_c11 (l : Launch) (Z : State) (a0 : Array Value) (hw : ∀ d ∈ tables_1, d.before a0 Z = true) (c : Nat) (hc : c < 65536) (h0 : Heap) :
    Con l Z (⟨"com/example/yuletally/yuletally/ScreenLinesHoldsControlPinLaw", "ctl", "(C)Z"⟩ : MethodName) method_2_code 1 (some .boolean) [] ({ frames := 0, cells := 0, slots := 0, locals := 0 } : Room) 0 0 #[(.int (Int32.ofNat c))] h0 (fun r h L => r = some (.int (bI (own_ctl c = true))) ∧ h = h0 ∧ L = []) := by
  refine Con.of own_pn13 ?_
  intro pg ev s_ m bl mt cd s₁ hx hby hml hown hnm hret hlk hZ X0 e0
  rw [ef_11]
  show Gd _ _ _ _ (s₁.setTop (mkF m 0 #[.val (.int (Int32.ofNat c))] []))
  refine Gd.go (fun _ w_k => XS.iloadN X0.here hx rfl (hb hby d11_0) rfl (XS.bipush X0.here hx rfl (hb hby d11_1) w_k)) ?_
  show Gd _ _ _ _ (s₁.setTop (mkF m 3 #[.val (.int (Int32.ofNat c))] [(.int (31 : Int32)), (.int (Int32.ofNat c))]))
  by_cases w1 : 31 < c
  · refine Gd.go (fun _ w_k => XS.icmpNo X0.here hx rfl (hb hby d11_3) rfl (tlt ((own_gtL hc 31 (by decide) rfl).mpr w1)).2.2.2 w_k) ?_
    show Gd _ _ _ _ (s₁.setTop (mkF m 6 #[.val (.int (Int32.ofNat c))] []))
    refine Gd.go (fun _ w_k => XS.iloadN X0.here hx rfl (hb hby d11_6) rfl (XS.bipush X0.here hx rfl (hb hby d11_7) w_k)) ?_
    show Gd _ _ _ _ (s₁.setTop (mkF m 9 #[.val (.int (Int32.ofNat c))] [(.int (127 : Int32)), (.int (Int32.ofNat c))]))
    by_cases w2 : c < 127
    · refine Gd.go (fun _ w_k => XS.icmpYes X0.here hx rfl (pc0 := 9) (pc' := 23) rfl (hb hby d11_9) rfl (tlt ((own_ltL hc 127 (by decide) rfl).mpr w2)).1 (by decide) (by decide) w_k) ?_
      show Gd _ _ _ _ (s₁.setTop (mkF m 23 #[.val (.int (Int32.ofNat c))] []))
      refine Gd.go (fun _ w_k => XS.iconst X0.here hx rfl (hb hby d11_23) w_k) ?_
      show Gd _ _ _ _ (s₁.setTop (mkF m 24 #[.val (.int (Int32.ofNat c))] [(.int (0 : Int32))]))
      refine own_retN (t := .boolean) X0 hx hret hlk (by simp) (hb hby d11_24) ?_ (by decide) (by decide)
      have e : ¬ own_ctl c = true := by rw [own_ctlE]; omega
      exact ⟨congrArg (fun q => some (Value.int q)) (by rw [bI_z e]; rfl), e0, rfl⟩
    · refine Gd.go (fun _ w_k => XS.icmpNo X0.here hx rfl (hb hby d11_9) rfl (flt (fun q => w2 ((own_ltL hc 127 (by decide) rfl).mp q))).1 w_k) ?_
      show Gd _ _ _ _ (s₁.setTop (mkF m 12 #[.val (.int (Int32.ofNat c))] []))
      refine Gd.go (fun _ w_k => XS.iloadN X0.here hx rfl (hb hby d11_12) rfl (XS.sipush X0.here hx rfl (hb hby d11_13) w_k)) ?_
      show Gd _ _ _ _ (s₁.setTop (mkF m 16 #[.val (.int (Int32.ofNat c))] [(.int (159 : Int32)), (.int (Int32.ofNat c))]))
      by_cases w3 : 159 < c
      · refine Gd.go (fun _ w_k => XS.icmpYes X0.here hx rfl (pc0 := 16) (pc' := 23) rfl (hb hby d11_16) rfl (tlt ((own_gtL hc 159 (by decide) rfl).mpr w3)).2.2.1 (by decide) (by decide) w_k) ?_
        show Gd _ _ _ _ (s₁.setTop (mkF m 23 #[.val (.int (Int32.ofNat c))] []))
        refine Gd.go (fun _ w_k => XS.iconst X0.here hx rfl (hb hby d11_23) w_k) ?_
        show Gd _ _ _ _ (s₁.setTop (mkF m 24 #[.val (.int (Int32.ofNat c))] [(.int (0 : Int32))]))
        refine own_retN (t := .boolean) X0 hx hret hlk (by simp) (hb hby d11_24) ?_ (by decide) (by decide)
        have e : ¬ own_ctl c = true := by rw [own_ctlE]; omega
        exact ⟨congrArg (fun q => some (Value.int q)) (by rw [bI_z e]; rfl), e0, rfl⟩
      · refine Gd.go (fun _ w_k => XS.icmpNo X0.here hx rfl (hb hby d11_16) rfl (flt (fun q => w3 ((own_gtL hc 159 (by decide) rfl).mp q))).2.2.1 w_k) ?_
        show Gd _ _ _ _ (s₁.setTop (mkF m 19 #[.val (.int (Int32.ofNat c))] []))
        refine Gd.go (fun _ w_k => XS.iconst X0.here hx rfl (hb hby d11_19) (XS.goto X0.here hx rfl (pc0 := 20) (pc' := 24) rfl (hb hby d11_20) (by decide) (by decide) w_k)) ?_
        show Gd _ _ _ _ (s₁.setTop (mkF m 24 #[.val (.int (Int32.ofNat c))] [(.int (1 : Int32))]))
        refine own_retN (t := .boolean) X0 hx hret hlk (by simp) (hb hby d11_24) ?_ (by decide) (by decide)
        have e : own_ctl c = true := by rw [own_ctlE]; omega
        exact ⟨congrArg (fun q => some (Value.int q)) (by rw [bI_o e]; rfl), e0, rfl⟩
  · refine Gd.go (fun _ w_k => XS.icmpYes X0.here hx rfl (pc0 := 3) (pc' := 19) rfl (hb hby d11_3) rfl (flt (fun q => w1 ((own_gtL hc 31 (by decide) rfl).mp q))).2.2.2 (by decide) (by decide) w_k) ?_
    show Gd _ _ _ _ (s₁.setTop (mkF m 19 #[.val (.int (Int32.ofNat c))] []))
    refine Gd.go (fun _ w_k => XS.iconst X0.here hx rfl (hb hby d11_19) (XS.goto X0.here hx rfl (pc0 := 20) (pc' := 24) rfl (hb hby d11_20) (by decide) (by decide) w_k)) ?_
    show Gd _ _ _ _ (s₁.setTop (mkF m 24 #[.val (.int (Int32.ofNat c))] [(.int (1 : Int32))]))
    refine own_retN (t := .boolean) X0 hx hret hlk (by simp) (hb hby d11_24) ?_ (by decide) (by decide)
    have e : own_ctl c = true := by rw [own_ctlE]; omega
    exact ⟨congrArg (fun q => some (Value.int q)) (by rw [bI_o e]; rfl), e0, rfl⟩
theorem own_anyI {n i : Nat} {f : Nat → Nat} (h : i < n) (c : own_ctl (f i) = true) : own_any n f = true := by
  induction n with
  | zero => omega
  | succ n ih =>
    show (own_any n f || own_ctl (f n)) = true
    by_cases q : i = n
    · subst q; rw [c]; simp
    · rw [ih (by omega)]; rfl
theorem own_pn14 : plainFor (⟨"com/example/yuletally/yuletally/ScreenLines", "holdsControl", "(Ljava/lang/String;)Z"⟩ : MethodName) = true := by first | exact plainFor_of_name (by first | (simp [plainName, overriddenIn, x]; done) | decide +kernel) | decide +kernel
theorem ef_5 (m : MethodId) (q0 : Addr) : entryFrame m #[(.ref q0)] 2 = mkF m 0 #[.val (.ref q0), .unset] [] := by first | (simp [entryFrame, mkF, argsToLocals, Value.category, maxLocals]; done) | rfl
theorem d5_2 : decode prog_11_method_8_code 2 = .ok (.iload_n 1, 1) := by decide +kernel
theorem d5_3 : decode prog_11_method_8_code 3 = .ok (.aload_n 0, 1) := by decide +kernel
theorem own_pd8 : parseMethodDescriptor "()I" = some ⟨[], some .int⟩ := by decide +kernel
theorem d5_4 : decode prog_11_method_8_code 4 = .ok (.invokevirtual 71, 3) := by decide +kernel
theorem d5_7 : decode prog_11_method_8_code 7 = .ok (.if_icmp .ge 22, 3) := by decide +kernel
theorem d5_29 : decode prog_11_method_8_code 29 = .ok (.iconst 0, 1) := by decide +kernel
theorem d5_30 : decode prog_11_method_8_code 30 = .ok (.ireturn, 1) := by decide +kernel
theorem d5_10 : decode prog_11_method_8_code 10 = .ok (.aload_n 0, 1) := by decide +kernel
theorem d5_11 : decode prog_11_method_8_code 11 = .ok (.iload_n 1, 1) := by decide +kernel
theorem own_pd9 : parseMethodDescriptor "(I)C" = some ⟨[.int], some .char⟩ := by decide +kernel
theorem d5_12 : decode prog_11_method_8_code 12 = .ok (.invokevirtual 75, 3) := by decide +kernel
theorem own_pd10 : parseMethodDescriptor "(C)Z" = some ⟨[.char], some .boolean⟩ := by decide +kernel
theorem d5_15 : decode prog_11_method_8_code 15 = .ok (.invokestatic 79, 3) := by decide +kernel
theorem d5_18 : decode prog_11_method_8_code 18 = .ok (.ifCond .eq 5, 3) := by decide +kernel
theorem d5_21 : decode prog_11_method_8_code 21 = .ok (.iconst 1, 1) := by decide +kernel
theorem d5_22 : decode prog_11_method_8_code 22 = .ok (.ireturn, 1) := by decide +kernel
theorem d5_23 : decode prog_11_method_8_code 23 = .ok (.iinc 1 1, 3) := by decide +kernel
theorem d5_26 : decode prog_11_method_8_code 26 = .ok (.goto (-24), 3) := by decide +kernel
theorem d5_0 : decode prog_11_method_8_code 0 = .ok (.iconst 0, 1) := by decide +kernel
theorem d5_1 : decode prog_11_method_8_code 1 = .ok (.istore_n 1, 1) := by decide +kernel
set_option maxRecDepth 65536 in
set_option maxHeartbeats 40000000 in
theorem own_c5_0 (l : Launch) (Z : State) (a0 : Array Value) (hw : ∀ d ∈ tables_1, d.before a0 Z = true) (cs : Int32) (gv : Value) (G : own_G Z cs gv) (h0 : Heap) (n0 : Nat) (O0 : Old Z n0 h0) (t V : Addr) (n : Nat) (f : Nat → Nat) (hn : n < 2 ^ 20) (H : own_T Z h0 (0 : Int32) t V n (own_lat f)) (hf : ∀ i, i < n → f i < 256) :
    Con l Z (⟨"com/example/yuletally/yuletally/ScreenLines", "holdsControl", "(Ljava/lang/String;)Z"⟩ : MethodName) prog_11_method_8_code 2 (some .boolean) [] ({ frames := 5, cells := 0, slots := 0, locals := 66 } : Room) 0 0 #[(.ref t)] h0 (fun r h L => r = some (.int (bI (own_any n f = true))) ∧ h = h0 ∧ L = []) := by
  refine Con.of own_pn14 ?_
  intro pg ev s_ m bl mt cd s₁ hx hby hml hown hnm hret hlk hZ X0 e0
  rw [ef_5]
  show Gd _ _ _ _ (s₁.setTop (mkF m 0 #[.val (.ref t), .unset] []))
  have loop : ∀ (q i : Nat) (T : State), i + q = n → Stand pg l ev ({ frames := 5, cells := 0, slots := 0, locals := 66 } : Room) s_ m #[(.ref t)] bl mt cd T [] 0 0 → T.heap = h0 → own_any i f = false → Gd pg.tables ev bl (Owes s_ 0 0 (fun r h L => r = some (.int (bI (own_any n f = true))) ∧ h = h0 ∧ L = [])) (T.setTop (mkF m 2 #[.val (.ref t), .val (.int (Int32.ofNat i))] [])) := by
    intro q
    induction q with
    | zero =>
      intro i T hq X eT I
      refine Gd.go (fun _ w_k => XS.iloadN X.here hx rfl (hb hby d5_2) rfl (XS.aloadN X.here hx rfl (hb hby d5_3) rfl rfl w_k)) ?_
      show Gd _ _ _ _ (T.setTop (mkF m 4 #[.val (.ref t), .val (.int (Int32.ofNat i))] [(.ref t), (.int (Int32.ofNat i))]))
      obtain ⟨T1, X1, e1, st1⟩ := own_callVP X hx hZ (C := "java/lang/String") (y := (⟨"java/lang/String", "length", "()I"⟩ : MethodName)) hown (ow hw 31 rfl) (ow hw 32 rfl) (ow hw 34 rfl) (ow hw 33 rfl) (ow hw 8 rfl) (ow hw 35 rfl) (by decide) H.1 (W := 1) (own_c6_0 l Z a0 hw cs gv G h0 n0 O0 t V n f hn H) rfl rfl eT (by decide) (by decide) (g := (mkF m 4 #[.val (.ref t), .val (.int (Int32.ofNat i))] [(.ref t), (.int (Int32.ofNat i))])) rfl (by rw [hml]; rfl) (argsL := []) (rest := [(.int (Int32.ofNat i))]) (lenOf own_pd8 rfl) rfl (Nat.le_of_eq rfl) (hb hby d5_4) rfl
      refine Gd.go (fun _ w_k => st1 _ (XS.icmpYes X1.here hx rfl (pc0 := 7) (pc' := 29) rfl (hb hby d5_7) rfl (flt (own_geN (by omega) (by omega))).2.1 (by decide) (by decide) w_k)) ?_
      show Gd _ _ _ _ (T1.setTop (mkF m 29 #[.val (.ref t), .val (.int (Int32.ofNat i))] []))
      refine Gd.go (fun _ w_k => XS.iconst X1.here hx rfl (hb hby d5_29) w_k) ?_
      show Gd _ _ _ _ (T1.setTop (mkF m 30 #[.val (.ref t), .val (.int (Int32.ofNat i))] [(.int (0 : Int32))]))
      refine own_retN (t := .boolean) X1 hx hret hlk (by simp) (hb hby d5_30) ?_ (by decide) (by decide)
      have e : ¬ own_any n f = true := by rw [show n = i by omega, I]; decide
      exact ⟨congrArg (fun q => some (Value.int q)) (by rw [bI_z e]; rfl), e1, rfl⟩
    | succ q ih =>
      intro i T hq X eT I
      refine Gd.go (fun _ w_k => XS.iloadN X.here hx rfl (hb hby d5_2) rfl (XS.aloadN X.here hx rfl (hb hby d5_3) rfl rfl w_k)) ?_
      show Gd _ _ _ _ (T.setTop (mkF m 4 #[.val (.ref t), .val (.int (Int32.ofNat i))] [(.ref t), (.int (Int32.ofNat i))]))
      obtain ⟨T2, X2, e2, st2⟩ := own_callVP X hx hZ (C := "java/lang/String") (y := (⟨"java/lang/String", "length", "()I"⟩ : MethodName)) hown (ow hw 31 rfl) (ow hw 32 rfl) (ow hw 34 rfl) (ow hw 33 rfl) (ow hw 8 rfl) (ow hw 35 rfl) (by decide) H.1 (W := 1) (own_c6_0 l Z a0 hw cs gv G h0 n0 O0 t V n f hn H) rfl rfl eT (by decide) (by decide) (g := (mkF m 4 #[.val (.ref t), .val (.int (Int32.ofNat i))] [(.ref t), (.int (Int32.ofNat i))])) rfl (by rw [hml]; rfl) (argsL := []) (rest := [(.int (Int32.ofNat i))]) (lenOf own_pd8 rfl) rfl (Nat.le_of_eq rfl) (hb hby d5_4) rfl
      refine Gd.go (fun _ w_k => st2 _ (XS.icmpNo X2.here hx rfl (hb hby d5_7) rfl (tlt (own_ltN (by omega) (by omega))).2.1 w_k)) ?_
      show Gd _ _ _ _ (T2.setTop (mkF m 10 #[.val (.ref t), .val (.int (Int32.ofNat i))] []))
      refine Gd.go (fun _ w_k => XS.aloadN X2.here hx rfl (hb hby d5_10) rfl rfl (XS.iloadN X2.here hx rfl (hb hby d5_11) rfl w_k)) ?_
      show Gd _ _ _ _ (T2.setTop (mkF m 12 #[.val (.ref t), .val (.int (Int32.ofNat i))] [(.int (Int32.ofNat i)), (.ref t)]))
      obtain ⟨T3, X3, e3, st3⟩ := own_callVP X2 hx hZ (C := "java/lang/String") (y := (⟨"java/lang/String", "charAt", "(I)C"⟩ : MethodName)) hown (ow hw 55 rfl) (ow hw 56 rfl) (ow hw 58 rfl) (ow hw 57 rfl) (ow hw 8 rfl) (ow hw 59 rfl) (by decide) H.1 (W := 0) (own_c12_0 l Z a0 hw cs gv G h0 n0 O0 t V n f hn H i (by omega) (hf i (by omega))) rfl rfl e2 (by decide) (by decide) (g := (mkF m 12 #[.val (.ref t), .val (.int (Int32.ofNat i))] [(.int (Int32.ofNat i)), (.ref t)])) rfl (by rw [hml]; rfl) (argsL := [(.int (Int32.ofNat i))]) (rest := []) (lenOf own_pd9 rfl) rfl (Nat.le_of_eq rfl) (hb hby d5_12) rfl
      refine Gd.go (fun _ w_k => st3 _ w_k) ?_
      show Gd _ _ _ _ (T3.setTop (mkF m 15 #[.val (.ref t), .val (.int (Int32.ofNat i))] [(.int (Int32.ofNat (f i)))]))
      obtain ⟨T4, X4, e4, st4⟩ := own_callSP X3 hx hZ (y := (⟨"java/lang/Character", "isISOControl", "(C)Z"⟩ : MethodName)) hown (ow hw 77 rfl) (ow hw 78 rfl) (ow hw 79 rfl) (ow hw 80 rfl) (by decide) (W := 0) (own_c17 l Z a0 hw (f i) (Nat.lt_of_lt_of_le (hf i (by omega)) (by decide)) h0) rfl rfl e3 (by decide) (by decide) (g := (mkF m 15 #[.val (.ref t), .val (.int (Int32.ofNat i))] [(.int (Int32.ofNat (f i)))])) rfl (by rw [hml]; rfl) (argsL := [(.int (Int32.ofNat (f i)))]) (rest := []) (lenOf own_pd10 rfl) rfl (Nat.le_of_eq rfl) (hb hby d5_15) rfl
      refine Gd.go (fun _ w_k => st4 _ w_k) ?_
      show Gd _ _ _ _ (T4.setTop (mkF m 18 #[.val (.ref t), .val (.int (Int32.ofNat i))] [(.int (bI (own_ctl (f i) = true)))]))
      by_cases wc : own_ctl (f i) = true
      · refine Gd.go (fun _ w_k => XS.ifNo X4.here hx rfl (hb hby d5_18) rfl ((if0 _ _).trans (feq (bI_ne wc)).1) w_k) ?_
        show Gd _ _ _ _ (T4.setTop (mkF m 21 #[.val (.ref t), .val (.int (Int32.ofNat i))] []))
        refine Gd.go (fun _ w_k => XS.iconst X4.here hx rfl (hb hby d5_21) w_k) ?_
        show Gd _ _ _ _ (T4.setTop (mkF m 22 #[.val (.ref t), .val (.int (Int32.ofNat i))] [(.int (1 : Int32))]))
        refine own_retN (t := .boolean) X4 hx hret hlk (by simp) (hb hby d5_22) ?_ (by decide) (by decide)
        have e : own_any n f = true := own_anyI (i := i) (by omega) wc
        exact ⟨congrArg (fun q => some (Value.int q)) (by rw [bI_o e]; rfl), e4, rfl⟩
      · refine Gd.go (fun _ w_k => XS.ifYes X4.here hx rfl (pc0 := 18) (pc' := 23) rfl (hb hby d5_18) rfl ((if0 _ _).trans (teq (bI_z wc)).1) (by decide) (by decide) w_k) ?_
        show Gd _ _ _ _ (T4.setTop (mkF m 23 #[.val (.ref t), .val (.int (Int32.ofNat i))] []))
        refine Gd.go (fun _ w_k => XS.iinc X4.here hx rfl (hb hby d5_23) rfl (l' := #[.val (.ref t), .val (.int ((Int32.ofNat i) + (1 : Int32)))]) rfl w_k) ?_
        show Gd _ _ _ _ (T4.setTop (mkF m 26 #[.val (.ref t), .val (.int ((Int32.ofNat i) + (1 : Int32)))] []))
        rw [own_incN]
        show Gd _ _ _ _ (T4.setTop (mkF m 26 #[.val (.ref t), .val (.int (Int32.ofNat (i + 1)))] []))
        refine Gd.go (fun _ w_k => XS.goto X4.here hx rfl (pc0 := 26) (pc' := 2) rfl (hb hby d5_26) (by decide) (by decide) w_k) ?_
        show Gd _ _ _ _ (T4.setTop (mkF m 2 #[.val (.ref t), .val (.int (Int32.ofNat (i + 1)))] []))
        exact ih (i + 1) T4 (by omega) X4 e4 (by show (own_any i f || own_ctl (f i)) = false; rw [I]; simpa using wc)
  refine Gd.go (fun _ w_k => XS.iconst X0.here hx rfl (hb hby d5_0) (XS.istoreN X0.here hx rfl (hb hby d5_1) rfl (l' := #[.val (.ref t), .val (.int (0 : Int32))]) rfl w_k)) ?_
  show Gd _ _ _ _ (s₁.setTop (mkF m 2 #[.val (.ref t), .val (.int (0 : Int32))] []))
  exact loop n 0 s₁ (by omega) X0 e0 rfl
set_option maxRecDepth 65536 in
set_option maxHeartbeats 40000000 in
theorem own_c5_1 (l : Launch) (Z : State) (a0 : Array Value) (hw : ∀ d ∈ tables_1, d.before a0 Z = true) (cs : Int32) (gv : Value) (G : own_G Z cs gv) (h0 : Heap) (n0 : Nat) (O0 : Old Z n0 h0) (t V : Addr) (n : Nat) (f : Nat → Nat) (hn : n < 2 ^ 20) (H : own_T Z h0 (1 : Int32) t V (2 * n) (own_utf f)) (hf : ∀ i, i < n → f i < 65536) :
    Con l Z (⟨"com/example/yuletally/yuletally/ScreenLines", "holdsControl", "(Ljava/lang/String;)Z"⟩ : MethodName) prog_11_method_8_code 2 (some .boolean) [] ({ frames := 5, cells := 0, slots := 0, locals := 66 } : Room) 0 0 #[(.ref t)] h0 (fun r h L => r = some (.int (bI (own_any n f = true))) ∧ h = h0 ∧ L = []) := by
  refine Con.of own_pn14 ?_
  intro pg ev s_ m bl mt cd s₁ hx hby hml hown hnm hret hlk hZ X0 e0
  rw [ef_5]
  show Gd _ _ _ _ (s₁.setTop (mkF m 0 #[.val (.ref t), .unset] []))
  have loop : ∀ (q i : Nat) (T : State), i + q = n → Stand pg l ev ({ frames := 5, cells := 0, slots := 0, locals := 66 } : Room) s_ m #[(.ref t)] bl mt cd T [] 0 0 → T.heap = h0 → own_any i f = false → Gd pg.tables ev bl (Owes s_ 0 0 (fun r h L => r = some (.int (bI (own_any n f = true))) ∧ h = h0 ∧ L = [])) (T.setTop (mkF m 2 #[.val (.ref t), .val (.int (Int32.ofNat i))] [])) := by
    intro q
    induction q with
    | zero =>
      intro i T hq X eT I
      refine Gd.go (fun _ w_k => XS.iloadN X.here hx rfl (hb hby d5_2) rfl (XS.aloadN X.here hx rfl (hb hby d5_3) rfl rfl w_k)) ?_
      show Gd _ _ _ _ (T.setTop (mkF m 4 #[.val (.ref t), .val (.int (Int32.ofNat i))] [(.ref t), (.int (Int32.ofNat i))]))
      obtain ⟨T1, X1, e1, st1⟩ := own_callVP X hx hZ (C := "java/lang/String") (y := (⟨"java/lang/String", "length", "()I"⟩ : MethodName)) hown (ow hw 31 rfl) (ow hw 32 rfl) (ow hw 34 rfl) (ow hw 33 rfl) (ow hw 8 rfl) (ow hw 35 rfl) (by decide) H.1 (W := 1) (own_c6_1 l Z a0 hw cs gv G h0 n0 O0 t V n f hn H) rfl rfl eT (by decide) (by decide) (g := (mkF m 4 #[.val (.ref t), .val (.int (Int32.ofNat i))] [(.ref t), (.int (Int32.ofNat i))])) rfl (by rw [hml]; rfl) (argsL := []) (rest := [(.int (Int32.ofNat i))]) (lenOf own_pd8 rfl) rfl (Nat.le_of_eq rfl) (hb hby d5_4) rfl
      refine Gd.go (fun _ w_k => st1 _ (XS.icmpYes X1.here hx rfl (pc0 := 7) (pc' := 29) rfl (hb hby d5_7) rfl (flt (own_geN (by omega) (by omega))).2.1 (by decide) (by decide) w_k)) ?_
      show Gd _ _ _ _ (T1.setTop (mkF m 29 #[.val (.ref t), .val (.int (Int32.ofNat i))] []))
      refine Gd.go (fun _ w_k => XS.iconst X1.here hx rfl (hb hby d5_29) w_k) ?_
      show Gd _ _ _ _ (T1.setTop (mkF m 30 #[.val (.ref t), .val (.int (Int32.ofNat i))] [(.int (0 : Int32))]))
      refine own_retN (t := .boolean) X1 hx hret hlk (by simp) (hb hby d5_30) ?_ (by decide) (by decide)
      have e : ¬ own_any n f = true := by rw [show n = i by omega, I]; decide
      exact ⟨congrArg (fun q => some (Value.int q)) (by rw [bI_z e]; rfl), e1, rfl⟩
    | succ q ih =>
      intro i T hq X eT I
      refine Gd.go (fun _ w_k => XS.iloadN X.here hx rfl (hb hby d5_2) rfl (XS.aloadN X.here hx rfl (hb hby d5_3) rfl rfl w_k)) ?_
      show Gd _ _ _ _ (T.setTop (mkF m 4 #[.val (.ref t), .val (.int (Int32.ofNat i))] [(.ref t), (.int (Int32.ofNat i))]))
      obtain ⟨T2, X2, e2, st2⟩ := own_callVP X hx hZ (C := "java/lang/String") (y := (⟨"java/lang/String", "length", "()I"⟩ : MethodName)) hown (ow hw 31 rfl) (ow hw 32 rfl) (ow hw 34 rfl) (ow hw 33 rfl) (ow hw 8 rfl) (ow hw 35 rfl) (by decide) H.1 (W := 1) (own_c6_1 l Z a0 hw cs gv G h0 n0 O0 t V n f hn H) rfl rfl eT (by decide) (by decide) (g := (mkF m 4 #[.val (.ref t), .val (.int (Int32.ofNat i))] [(.ref t), (.int (Int32.ofNat i))])) rfl (by rw [hml]; rfl) (argsL := []) (rest := [(.int (Int32.ofNat i))]) (lenOf own_pd8 rfl) rfl (Nat.le_of_eq rfl) (hb hby d5_4) rfl
      refine Gd.go (fun _ w_k => st2 _ (XS.icmpNo X2.here hx rfl (hb hby d5_7) rfl (tlt (own_ltN (by omega) (by omega))).2.1 w_k)) ?_
      show Gd _ _ _ _ (T2.setTop (mkF m 10 #[.val (.ref t), .val (.int (Int32.ofNat i))] []))
      refine Gd.go (fun _ w_k => XS.aloadN X2.here hx rfl (hb hby d5_10) rfl rfl (XS.iloadN X2.here hx rfl (hb hby d5_11) rfl w_k)) ?_
      show Gd _ _ _ _ (T2.setTop (mkF m 12 #[.val (.ref t), .val (.int (Int32.ofNat i))] [(.int (Int32.ofNat i)), (.ref t)]))
      obtain ⟨T3, X3, e3, st3⟩ := own_callVP X2 hx hZ (C := "java/lang/String") (y := (⟨"java/lang/String", "charAt", "(I)C"⟩ : MethodName)) hown (ow hw 55 rfl) (ow hw 56 rfl) (ow hw 58 rfl) (ow hw 57 rfl) (ow hw 8 rfl) (ow hw 59 rfl) (by decide) H.1 (W := 0) (own_c12_1 l Z a0 hw cs gv G h0 n0 O0 t V n f hn H i (by omega) (hf i (by omega))) rfl rfl e2 (by decide) (by decide) (g := (mkF m 12 #[.val (.ref t), .val (.int (Int32.ofNat i))] [(.int (Int32.ofNat i)), (.ref t)])) rfl (by rw [hml]; rfl) (argsL := [(.int (Int32.ofNat i))]) (rest := []) (lenOf own_pd9 rfl) rfl (Nat.le_of_eq rfl) (hb hby d5_12) rfl
      refine Gd.go (fun _ w_k => st3 _ w_k) ?_
      show Gd _ _ _ _ (T3.setTop (mkF m 15 #[.val (.ref t), .val (.int (Int32.ofNat i))] [(.int (Int32.ofNat (f i)))]))
      obtain ⟨T4, X4, e4, st4⟩ := own_callSP X3 hx hZ (y := (⟨"java/lang/Character", "isISOControl", "(C)Z"⟩ : MethodName)) hown (ow hw 77 rfl) (ow hw 78 rfl) (ow hw 79 rfl) (ow hw 80 rfl) (by decide) (W := 0) (own_c17 l Z a0 hw (f i) (Nat.lt_of_lt_of_le (hf i (by omega)) (by decide)) h0) rfl rfl e3 (by decide) (by decide) (g := (mkF m 15 #[.val (.ref t), .val (.int (Int32.ofNat i))] [(.int (Int32.ofNat (f i)))])) rfl (by rw [hml]; rfl) (argsL := [(.int (Int32.ofNat (f i)))]) (rest := []) (lenOf own_pd10 rfl) rfl (Nat.le_of_eq rfl) (hb hby d5_15) rfl
      refine Gd.go (fun _ w_k => st4 _ w_k) ?_
      show Gd _ _ _ _ (T4.setTop (mkF m 18 #[.val (.ref t), .val (.int (Int32.ofNat i))] [(.int (bI (own_ctl (f i) = true)))]))
      by_cases wc : own_ctl (f i) = true
      · refine Gd.go (fun _ w_k => XS.ifNo X4.here hx rfl (hb hby d5_18) rfl ((if0 _ _).trans (feq (bI_ne wc)).1) w_k) ?_
        show Gd _ _ _ _ (T4.setTop (mkF m 21 #[.val (.ref t), .val (.int (Int32.ofNat i))] []))
        refine Gd.go (fun _ w_k => XS.iconst X4.here hx rfl (hb hby d5_21) w_k) ?_
        show Gd _ _ _ _ (T4.setTop (mkF m 22 #[.val (.ref t), .val (.int (Int32.ofNat i))] [(.int (1 : Int32))]))
        refine own_retN (t := .boolean) X4 hx hret hlk (by simp) (hb hby d5_22) ?_ (by decide) (by decide)
        have e : own_any n f = true := own_anyI (i := i) (by omega) wc
        exact ⟨congrArg (fun q => some (Value.int q)) (by rw [bI_o e]; rfl), e4, rfl⟩
      · refine Gd.go (fun _ w_k => XS.ifYes X4.here hx rfl (pc0 := 18) (pc' := 23) rfl (hb hby d5_18) rfl ((if0 _ _).trans (teq (bI_z wc)).1) (by decide) (by decide) w_k) ?_
        show Gd _ _ _ _ (T4.setTop (mkF m 23 #[.val (.ref t), .val (.int (Int32.ofNat i))] []))
        refine Gd.go (fun _ w_k => XS.iinc X4.here hx rfl (hb hby d5_23) rfl (l' := #[.val (.ref t), .val (.int ((Int32.ofNat i) + (1 : Int32)))]) rfl w_k) ?_
        show Gd _ _ _ _ (T4.setTop (mkF m 26 #[.val (.ref t), .val (.int ((Int32.ofNat i) + (1 : Int32)))] []))
        rw [own_incN]
        show Gd _ _ _ _ (T4.setTop (mkF m 26 #[.val (.ref t), .val (.int (Int32.ofNat (i + 1)))] []))
        refine Gd.go (fun _ w_k => XS.goto X4.here hx rfl (pc0 := 26) (pc' := 2) rfl (hb hby d5_26) (by decide) (by decide) w_k) ?_
        show Gd _ _ _ _ (T4.setTop (mkF m 2 #[.val (.ref t), .val (.int (Int32.ofNat (i + 1)))] []))
        exact ih (i + 1) T4 (by omega) X4 e4 (by show (own_any i f || own_ctl (f i)) = false; rw [I]; simpa using wc)
  refine Gd.go (fun _ w_k => XS.iconst X0.here hx rfl (hb hby d5_0) (XS.istoreN X0.here hx rfl (hb hby d5_1) rfl (l' := #[.val (.ref t), .val (.int (0 : Int32))]) rfl w_k)) ?_
  show Gd _ _ _ _ (s₁.setTop (mkF m 2 #[.val (.ref t), .val (.int (0 : Int32))] []))
  exact loop n 0 s₁ (by omega) X0 e0 rfl
def own_dr (v : Int32) : Int32 := if ((v.toUInt32 >>> ((16 : Int32) &&& 31).toUInt32).toInt32 &&& 1) = 0 then (v &&& 255).toUInt32.toUInt16.toUInt32.toInt32 else (v &&& 65535).toUInt32.toUInt16.toUInt32.toInt32
def own_dn (v : Int32) : Nat := (own_dr v).toNatClampNeg
theorem own_dn_lt (v : Int32) : own_dn v < 65536 ∧ own_dr v = Int32.ofNat (own_dn v) := by
  have h : 0 ≤ (own_dr v).toInt ∧ (own_dr v).toInt < 65536 := by unfold own_dr; split <;> exact (c_i2c _).2
  have e := own_nat h.1
  have e2 : own_dn v < 65536 := by unfold own_dn; omega
  exact ⟨e2, Int32.toInt_inj.mp (by rw [own_ofN (by omega)]; unfold own_dn; omega)⟩
theorem own_pn15 : plainFor (⟨"com/example/yuletally/yuletally/ScreenLinesHoldsControlPinLaw", "draw", "(I)C"⟩ : MethodName) = true := by first | exact plainFor_of_name (by first | (simp [plainName, overriddenIn, x]; done) | decide +kernel) | decide +kernel
theorem ef_1 (m : MethodId) (q0 : Int32) : entryFrame m #[(.int q0)] 1 = mkF m 0 #[.val (.int q0)] [] := by first | (simp [entryFrame, mkF, argsToLocals, Value.category, maxLocals]; done) | rfl
theorem d1_0 : decode method_3_code 0 = .ok (.iload_n 0, 1) := by decide +kernel
theorem d1_1 : decode method_3_code 1 = .ok (.bipush 16, 2) := by decide +kernel
theorem d1_3 : decode method_3_code 3 = .ok (.iushr, 1) := by decide +kernel
theorem d1_4 : decode method_3_code 4 = .ok (.iconst 1, 1) := by decide +kernel
theorem d1_5 : decode method_3_code 5 = .ok (.iand, 1) := by decide +kernel
theorem d1_6 : decode method_3_code 6 = .ok (.ifCond .eq 11, 3) := by decide +kernel
theorem d1_17 : decode method_3_code 17 = .ok (.iload_n 0, 1) := by decide +kernel
theorem d1_18 : decode method_3_code 18 = .ok (.sipush 255, 3) := by decide +kernel
theorem d1_21 : decode method_3_code 21 = .ok (.iand, 1) := by decide +kernel
theorem d1_22 : decode method_3_code 22 = .ok (.i2c, 1) := by decide +kernel
theorem d1_23 : decode method_3_code 23 = .ok (.ireturn, 1) := by decide +kernel
theorem d1_9 : decode method_3_code 9 = .ok (.iload_n 0, 1) := by decide +kernel
theorem d1_10 : decode method_3_code 10 = .ok (.ldc 7, 2) := by decide +kernel
theorem d1_12 : decode method_3_code 12 = .ok (.iand, 1) := by decide +kernel
theorem d1_13 : decode method_3_code 13 = .ok (.i2c, 1) := by decide +kernel
theorem d1_14 : decode method_3_code 14 = .ok (.goto 9, 3) := by decide +kernel
set_option maxRecDepth 65536 in
set_option maxHeartbeats 40000000 in
theorem own_c1 (l : Launch) (Z : State) (a0 : Array Value) (hw : ∀ d ∈ tables_1, d.before a0 Z = true) (v : Int32) (h0 : Heap) :
    Con l Z (⟨"com/example/yuletally/yuletally/ScreenLinesHoldsControlPinLaw", "draw", "(I)C"⟩ : MethodName) method_3_code 1 (some .char) [] ({ frames := 0, cells := 0, slots := 0, locals := 0 } : Room) 0 0 #[(.int v)] h0 (fun r h L => r = some (.int (Int32.ofNat (own_dn v))) ∧ h = h0 ∧ L = []) := by
  refine Con.of own_pn15 ?_
  intro pg ev s_ m bl mt cd s₁ hx hby hml hown hnm hret hlk hZ X0 e0
  rw [ef_1]
  show Gd _ _ _ _ (s₁.setTop (mkF m 0 #[.val (.int v)] []))
  obtain ⟨d1, d2⟩ := own_dn_lt v
  refine Gd.go (fun _ w_k => XS.iloadN X0.here hx rfl (hb hby d1_0) rfl (XS.bipush X0.here hx rfl (hb hby d1_1) (XS.iushr X0.here hx rfl (hb hby d1_3) rfl (XS.iconst X0.here hx rfl (hb hby d1_4) (XS.iand X0.here hx rfl (hb hby d1_5) rfl w_k))))) ?_
  show Gd _ _ _ _ (s₁.setTop (mkF m 6 #[.val (.int v)] [(.int (((v.toUInt32 >>> ((16 : Int32) &&& 31).toUInt32).toInt32) &&& (1 : Int32)))]))
  by_cases hc1 : (((v.toUInt32 >>> ((16 : Int32) &&& 31).toUInt32).toInt32) &&& (1 : Int32)) = (0 : Int32)
  · refine Gd.go (fun _ w_k => XS.ifYes X0.here hx rfl (pc0 := 6) (pc' := 17) rfl (hb hby d1_6) rfl ((if0 _ _).trans (teq hc1).1) (by decide) (by decide) w_k) ?_
    show Gd _ _ _ _ (s₁.setTop (mkF m 17 #[.val (.int v)] []))
    refine Gd.go (fun _ w_k => XS.iloadN X0.here hx rfl (hb hby d1_17) rfl (XS.sipush X0.here hx rfl (hb hby d1_18) (XS.iand X0.here hx rfl (hb hby d1_21) rfl (XS.i2c X0.here hx rfl (hb hby d1_22) rfl w_k)))) ?_
    show Gd _ _ _ _ (s₁.setTop (mkF m 23 #[.val (.int v)] [(.int ((v &&& (255 : Int32)).toUInt32.toUInt16.toUInt32.toInt32))]))
    refine own_retN (t := .char) X0 hx hret hlk (by simp) (hb hby d1_23) ?_ (by decide) (by decide)
    have e : own_dr v = ((v &&& (255 : Int32)).toUInt32.toUInt16.toUInt32.toInt32) := if_pos hc1
    exact ⟨congrArg (fun q => some (Value.int q)) (by rw [← e, d2]; exact own_i2c d1), e0, rfl⟩
  · refine Gd.go (fun _ w_k => XS.ifNo X0.here hx rfl (hb hby d1_6) rfl ((if0 _ _).trans (feq hc1).1) w_k) ?_
    show Gd _ _ _ _ (s₁.setTop (mkF m 9 #[.val (.int v)] []))
    refine Gd.go (fun _ w_k => XS.iloadN X0.here hx rfl (hb hby d1_9) rfl (X0.ldcInt hx hown (mvT hZ (ow hw 84 rfl)) (g := (mkF m 10 #[.val (.int v)] [(.int v)])) rfl (hb hby d1_10) _ (XS.iand X0.here hx rfl (hb hby d1_12) rfl (XS.i2c X0.here hx rfl (hb hby d1_13) rfl (XS.goto X0.here hx rfl (pc0 := 14) (pc' := 23) rfl (hb hby d1_14) (by decide) (by decide) w_k))))) ?_
    show Gd _ _ _ _ (s₁.setTop (mkF m 23 #[.val (.int v)] [(.int ((v &&& (65535 : Int32)).toUInt32.toUInt16.toUInt32.toInt32))]))
    refine own_retN (t := .char) X0 hx hret hlk (by simp) (hb hby d1_23) ?_ (by decide) (by decide)
    have e : own_dr v = ((v &&& (65535 : Int32)).toUInt32.toUInt16.toUInt32.toInt32) := if_neg hc1
    exact ⟨congrArg (fun q => some (Value.int q)) (by rw [← e, d2]; exact own_i2c d1), e0, rfl⟩
theorem own_pn16 : plainFor (⟨"java/lang/StringUTF16", "newBytesLength", "(I)I"⟩ : MethodName) = true := by first | exact plainFor_of_name (by first | (simp [plainName, overriddenIn, x]; done) | decide +kernel) | decide +kernel
theorem ef_21 (m : MethodId) (q0 : Int32) : entryFrame m #[(.int q0)] 1 = mkF m 0 #[.val (.int q0)] [] := by first | (simp [entryFrame, mkF, argsToLocals, Value.category, maxLocals]; done) | rfl
theorem d21_0 : decode jdk_52_method_3_code 0 = .ok (.iload_n 0, 1) := by decide +kernel
theorem d21_1 : decode jdk_52_method_3_code 1 = .ok (.ifCond .ge 11, 3) := by decide +kernel
theorem d21_12 : decode jdk_52_method_3_code 12 = .ok (.iload_n 0, 1) := by decide +kernel
theorem d21_13 : decode jdk_52_method_3_code 13 = .ok (.ldc 20, 2) := by decide +kernel
theorem d21_15 : decode jdk_52_method_3_code 15 = .ok (.if_icmp .lt 40, 3) := by decide +kernel
theorem d21_55 : decode jdk_52_method_3_code 55 = .ok (.iload_n 0, 1) := by decide +kernel
theorem d21_56 : decode jdk_52_method_3_code 56 = .ok (.iconst 1, 1) := by decide +kernel
theorem d21_57 : decode jdk_52_method_3_code 57 = .ok (.ishl, 1) := by decide +kernel
theorem d21_58 : decode jdk_52_method_3_code 58 = .ok (.ireturn, 1) := by decide +kernel
set_option maxRecDepth 65536 in
set_option maxHeartbeats 40000000 in
theorem own_c21 (l : Launch) (Z : State) (a0 : Array Value) (hw : ∀ d ∈ tables_1, d.before a0 Z = true) (n : Nat) (hn : n ≤ 4) (h0 : Heap) :
    Con l Z (⟨"java/lang/StringUTF16", "newBytesLength", "(I)I"⟩ : MethodName) jdk_52_method_3_code 1 (some .int) [] ({ frames := 0, cells := 0, slots := 0, locals := 0 } : Room) 0 0 #[(.int (Int32.ofNat n))] h0 (fun r h L => r = some (.int (Int32.ofNat (2 * n))) ∧ h = h0 ∧ L = []) := by
  refine Con.of own_pn16 ?_
  intro pg ev s_ m bl mt cd s₁ hx hby hml hown hnm hret hlk hZ X0 e0
  rw [ef_21]
  show Gd _ _ _ _ (s₁.setTop (mkF m 0 #[.val (.int (Int32.ofNat n))] []))
  have ec1 := own_ofN (n := n) (by omega)
  have z0 : (0 : Int32).toInt = 0 := rfl
  have z1 : (1073741823 : Int32).toInt = 1073741823 := rfl
  refine Gd.go (fun _ w_k => XS.iloadN X0.here hx rfl (hb hby d21_0) rfl (XS.ifYes X0.here hx rfl (pc0 := 1) (pc' := 12) rfl (hb hby d21_1) rfl ((if0 _ _).trans (flt (by rw [Int32.lt_iff_toInt_lt]; omega)).2.1) (by decide) (by decide) w_k)) ?_
  show Gd _ _ _ _ (s₁.setTop (mkF m 12 #[.val (.int (Int32.ofNat n))] []))
  refine Gd.go (fun _ w_k => XS.iloadN X0.here hx rfl (hb hby d21_12) rfl (X0.ldcInt hx hown (mvT hZ (ow hw 94 rfl)) (g := (mkF m 13 #[.val (.int (Int32.ofNat n))] [(.int (Int32.ofNat n))])) rfl (hb hby d21_13) _ (XS.icmpYes X0.here hx rfl (pc0 := 15) (pc' := 55) rfl (hb hby d21_15) rfl (tlt (by rw [Int32.lt_iff_toInt_lt]; omega)).1 (by decide) (by decide) w_k))) ?_
  show Gd _ _ _ _ (s₁.setTop (mkF m 55 #[.val (.int (Int32.ofNat n))] []))
  refine Gd.go (fun _ w_k => XS.iloadN X0.here hx rfl (hb hby d21_55) rfl (XS.iconst X0.here hx rfl (hb hby d21_56) (XS.ishl X0.here hx rfl (hb hby d21_57) rfl w_k))) ?_
  show Gd _ _ _ _ (s₁.setTop (mkF m 58 #[.val (.int (Int32.ofNat n))] [(.int ((Int32.ofNat n) <<< ((1 : Int32) &&& 31)))]))
  rw [own_shl1 (by omega)]
  show Gd _ _ _ _ (s₁.setTop (mkF m 58 #[.val (.int (Int32.ofNat n))] [(.int (Int32.ofNat (2 * n)))]))
  refine own_retI X0 hx hret hlk (hb hby d21_58) ?_ (by decide) (by decide)
  exact ⟨rfl, e0, rfl⟩
theorem own_pn17 : plainFor (⟨"java/lang/StringUTF16", "newBytesFor", "(I)[B"⟩ : MethodName) = true := by first | exact plainFor_of_name (by first | (simp [plainName, overriddenIn, x]; done) | decide +kernel) | decide +kernel
theorem ef_20 (m : MethodId) (q0 : Int32) : entryFrame m #[(.int q0)] 1 = mkF m 0 #[.val (.int q0)] [] := by first | (simp [entryFrame, mkF, argsToLocals, Value.category, maxLocals]; done) | rfl
theorem d20_0 : decode jdk_52_method_2_code 0 = .ok (.iload_n 0, 1) := by decide +kernel
theorem own_pd11 : parseMethodDescriptor "(I)I" = some ⟨[.int], some .int⟩ := by decide +kernel
theorem d20_1 : decode jdk_52_method_2_code 1 = .ok (.invokestatic 11, 3) := by decide +kernel
theorem d20_4 : decode jdk_52_method_2_code 4 = .ok (.newarray .byte, 2) := by decide +kernel
theorem d20_6 : decode jdk_52_method_2_code 6 = .ok (.areturn, 1) := by decide +kernel
set_option maxRecDepth 65536 in
set_option maxHeartbeats 40000000 in
theorem own_c20 (l : Launch) (Z : State) (a0 : Array Value) (hw : ∀ d ∈ tables_1, d.before a0 Z = true) (cs : Int32) (gv : Value) (G : own_G Z cs gv) (h0 : Heap) (n0 : Nat) (O0 : Old Z n0 h0) (Z0 : n0 ≤ h0.size) (n : Nat) (hn : n ≤ 4) :
    Con l Z (⟨"java/lang/StringUTF16", "newBytesFor", "(I)[B"⟩ : MethodName) jdk_52_method_2_code 1 (some (.array .byte)) [] ({ frames := 1, cells := 1, slots := 8, locals := 12 } : Room) 1 8 #[(.int (Int32.ofNat n))] h0 (fun r h L => ∃ W, r = some (.ref W) ∧ h0.size ≤ W ∧ Keep h0 h [] ∧ ArF Z h W .byte (2 * n) (fun _ => .int (0 : Int32)) ∧ Old Z n0 h ∧ Fr n0 L) := by
  refine Con.of own_pn17 ?_
  intro pg ev s_ m bl mt cd s₁ hx hby hml hown hnm hret hlk hZ X0 e0
  rw [ef_20]
  show Gd _ _ _ _ (s₁.setTop (mkF m 0 #[.val (.int (Int32.ofNat n))] []))
  have N0 := Fr.nil n0
  have K0 := Keep.refl h0 []
  have ec1 := own_ofN (n := 2 * n) (by omega)
  have ec2 := own_ofC (n := 2 * n) (by omega)
  have z0 : (0 : Int32).toInt = 0 := rfl
  refine Gd.go (fun _ w_k => XS.iloadN X0.here hx rfl (hb hby d20_0) rfl w_k) ?_
  show Gd _ _ _ _ (s₁.setTop (mkF m 1 #[.val (.int (Int32.ofNat n))] [(.int (Int32.ofNat n))]))
  obtain ⟨T1, X1, e1, st1⟩ := own_callSP X0 hx hZ (y := (⟨"java/lang/StringUTF16", "newBytesLength", "(I)I"⟩ : MethodName)) hown (ow hw 91 rfl) (ow hw 92 rfl) (ow hw 44 rfl) (ow hw 93 rfl) (by decide) (W := 0) (own_c21 l Z a0 hw n hn h0) rfl rfl e0 (by decide) (by decide) (g := (mkF m 1 #[.val (.int (Int32.ofNat n))] [(.int (Int32.ofNat n))])) rfl (by rw [hml]; rfl) (argsL := [(.int (Int32.ofNat n))]) (rest := []) (lenOf own_pd11 rfl) rfl (Nat.le_of_eq rfl) (hb hby d20_1) rfl
  refine Gd.go (fun _ w_k => st1 _ w_k) ?_
  show Gd _ _ _ _ (T1.setTop (mkF m 4 #[.val (.int (Int32.ofNat n))] [(.int (Int32.ofNat (2 * n)))]))
  obtain ⟨T2, h2, k2, X2, e2, E2, A2, st2⟩ := newP X1 hx hZ (ow hw 20 rfl) e1 (g := (mkF m 4 #[.val (.int (Int32.ofNat n))] [(.int (Int32.ofNat (2 * n)))])) rfl (hb hby d20_4) rfl (by rw [Int32.lt_iff_toInt_lt]; omega) (cap := 8) (by omega) (by decide) (by decide) (by decide)
  obtain ⟨b2, g2⟩ : ∃ z, z = h0.size := ⟨_, rfl⟩
  rw [← g2] at A2 st2
  have n0_b2 : n0 ≤ b2 := Nat.le_trans Z0 (Nat.le_of_eq g2.symm)
  have kn_b2 : h0.size ≤ b2 := Nat.le_trans K0.1 (Nat.le_of_eq g2.symm)
  have xO3 := Old.ext O0 E2
  have xZs4 := Nat.le_trans Z0 E2.1
  have xK5 := Keep.ext K0 E2
  have xF6 : ArF Z h2 b2 .byte ((Int32.ofNat (2 * n))).toNatClampNeg (fun _ => (.int (0 : Int32))) := own_new (h := h0) A2 (by rw [Int32.lt_iff_toInt_lt]; omega)
  refine Gd.go (fun _ w_k => st2 _ w_k) ?_
  show Gd _ _ _ _ (T2.setTop (mkF m 6 #[.val (.int (Int32.ofNat n))] [(.ref b2)]))
  refine own_retA X2 hx hret hlk rfl (hb hby d20_6) ?_ (by decide) (by decide)
  rw [e2]
  have xA := xF6
  rw [ec2] at xA
  exact ⟨b2, rfl, kn_b2, xK5, xA, xO3, N0⟩
def own_put (F : Nat → Value) (i c : Nat) : Nat → Value := fun k => if k = 2 * i then .int (own_bt c) else if k = 2 * i + 1 then .int (own_hi c) else F k
theorem own_narB (x : Int32) : nar .byte (x.toInt8.toInt32) = x.toInt8.toInt32 := by
  show (x.toInt8.toInt32).toInt8.toInt32 = x.toInt8.toInt32
  apply Int32.toInt_inj.mp
  have a := c_i2b x; have b := c_i2b x.toInt8.toInt32; omega
theorem own_fitB (x : Int32) : fits .byte (.int (x.toInt8.toInt32)) = true := by
  have a := c_i2b x
  have e1 : (-128 : Int32).toInt = -128 := rfl
  have e2 : (127 : Int32).toInt = 127 := rfl
  simp only [fits, Bool.and_eq_true, decide_eq_true_eq]
  rw [Int32.le_iff_toInt_le, Int32.le_iff_toInt_le]; omega
theorem own_pn18 : plainFor (⟨"java/lang/StringUTF16", "putChar", "([BII)V"⟩ : MethodName) = true := by first | exact plainFor_of_name (by first | (simp [plainName, overriddenIn, x]; done) | decide +kernel) | decide +kernel
theorem ef_22 (m : MethodId) (q0 : Addr) (q1 : Int32) (q2 : Int32) : entryFrame m #[(.ref q0), (.int q1), (.int q2)] 3 = mkF m 0 #[.val (.ref q0), .val (.int q1), .val (.int q2)] [] := by first | (simp [entryFrame, mkF, argsToLocals, Value.category, maxLocals]; done) | rfl
theorem d22_0 : decode jdk_52_method_4_code 0 = .ok (.getstatic 44, 3) := by decide +kernel
theorem d22_3 : decode jdk_52_method_4_code 3 = .ok (.ifCond .ne 25, 3) := by decide +kernel
theorem d22_28 : decode jdk_52_method_4_code 28 = .ok (.iload_n 1, 1) := by decide +kernel
theorem d22_29 : decode jdk_52_method_4_code 29 = .ok (.iconst 1, 1) := by decide +kernel
theorem d22_30 : decode jdk_52_method_4_code 30 = .ok (.ishl, 1) := by decide +kernel
theorem d22_31 : decode jdk_52_method_4_code 31 = .ok (.istore_n 1, 1) := by decide +kernel
theorem d22_32 : decode jdk_52_method_4_code 32 = .ok (.aload_n 0, 1) := by decide +kernel
theorem d22_33 : decode jdk_52_method_4_code 33 = .ok (.iload_n 1, 1) := by decide +kernel
theorem d22_34 : decode jdk_52_method_4_code 34 = .ok (.iinc 1 1, 3) := by decide +kernel
theorem d22_37 : decode jdk_52_method_4_code 37 = .ok (.iload_n 2, 1) := by decide +kernel
theorem d22_38 : decode jdk_52_method_4_code 38 = .ok (.getstatic 59, 3) := by decide +kernel
theorem d22_41 : decode jdk_52_method_4_code 41 = .ok (.ishr, 1) := by decide +kernel
theorem d22_42 : decode jdk_52_method_4_code 42 = .ok (.i2b, 1) := by decide +kernel
theorem d22_43 : decode jdk_52_method_4_code 43 = .ok (.bastore, 1) := by decide +kernel
theorem d22_44 : decode jdk_52_method_4_code 44 = .ok (.aload_n 0, 1) := by decide +kernel
theorem d22_45 : decode jdk_52_method_4_code 45 = .ok (.iload_n 1, 1) := by decide +kernel
theorem d22_46 : decode jdk_52_method_4_code 46 = .ok (.iload_n 2, 1) := by decide +kernel
theorem d22_47 : decode jdk_52_method_4_code 47 = .ok (.getstatic 63, 3) := by decide +kernel
theorem d22_50 : decode jdk_52_method_4_code 50 = .ok (.ishr, 1) := by decide +kernel
theorem d22_51 : decode jdk_52_method_4_code 51 = .ok (.i2b, 1) := by decide +kernel
theorem d22_52 : decode jdk_52_method_4_code 52 = .ok (.bastore, 1) := by decide +kernel
theorem d22_53 : decode jdk_52_method_4_code 53 = .ok (.return_, 1) := by decide +kernel
set_option maxRecDepth 65536 in
set_option maxHeartbeats 40000000 in
theorem own_c22 (l : Launch) (Z : State) (a0 : Array Value) (hw : ∀ d ∈ tables_1, d.before a0 Z = true) (cs : Int32) (gv : Value) (G : own_G Z cs gv) (h0 : Heap) (n0 : Nat) (O0 : Old Z n0 h0) (V : Addr) (gV : n0 ≤ V) (n : Nat) (hn : n ≤ 4) (F : Nat → Value) (A0 : ArF Z h0 V .byte (2 * n) F) (i c : Nat) (g1 : i < n) :
    Con l Z (⟨"java/lang/StringUTF16", "putChar", "([BII)V"⟩ : MethodName) jdk_52_method_4_code 3 none [] ({ frames := 0, cells := 0, slots := 0, locals := 0 } : Room) 0 0 #[(.ref V), (.int (Int32.ofNat i)), (.int (Int32.ofNat c))] h0 (fun r h L => r = none ∧ Keep h0 h [V] ∧ ArF Z h V .byte (2 * n) (own_put F i c) ∧ Old Z n0 h ∧ Fr n0 L) := by
  refine Con.of own_pn18 ?_
  intro pg ev s_ m bl mt cd s₁ hx hby hml hown hnm hret hlk hZ X0 e0
  rw [ef_22]
  show Gd _ _ _ _ (s₁.setTop (mkF m 0 #[.val (.ref V), .val (.int (Int32.ofNat i)), .val (.int (Int32.ofNat c))] []))
  have N0 := Fr.nil n0
  have K0 := Keep.refl h0 [V]
  obtain ⟨T1, X1, e1, st1⟩ := getS2 X0 hx hZ hown (host := "") (Or.inl (ow hw 98 rfl)) Via.refl e0 (G.2.2.2.2.1.ext O0.2) (g := (mkF m 0 #[.val (.ref V), .val (.int (Int32.ofNat i)), .val (.int (Int32.ofNat c))] [])) rfl (hb hby d22_0)
  refine Gd.go (fun _ w_k => st1 _ (XS.ifYes X1.here hx rfl (pc0 := 3) (pc' := 28) rfl (hb hby d22_3) rfl ((if0 _ _).trans (feq (by decide)).2) (by decide) (by decide) w_k)) ?_
  show Gd _ _ _ _ (T1.setTop (mkF m 28 #[.val (.ref V), .val (.int (Int32.ofNat i)), .val (.int (Int32.ofNat c))] []))
  refine Gd.go (fun _ w_k => XS.iloadN X1.here hx rfl (hb hby d22_28) rfl (XS.iconst X1.here hx rfl (hb hby d22_29) (XS.ishl X1.here hx rfl (hb hby d22_30) rfl w_k))) ?_
  show Gd _ _ _ _ (T1.setTop (mkF m 31 #[.val (.ref V), .val (.int (Int32.ofNat i)), .val (.int (Int32.ofNat c))] [(.int ((Int32.ofNat i) <<< ((1 : Int32) &&& 31)))]))
  rw [own_shl1 (by omega)]
  show Gd _ _ _ _ (T1.setTop (mkF m 31 #[.val (.ref V), .val (.int (Int32.ofNat i)), .val (.int (Int32.ofNat c))] [(.int (Int32.ofNat (2 * i)))]))
  refine Gd.go (fun _ w_k => XS.istoreN X1.here hx rfl (hb hby d22_31) rfl (l' := #[.val (.ref V), .val (.int (Int32.ofNat (2 * i))), .val (.int (Int32.ofNat c))]) rfl (XS.aloadN X1.here hx rfl (hb hby d22_32) rfl rfl (XS.iloadN X1.here hx rfl (hb hby d22_33) rfl (XS.iinc X1.here hx rfl (hb hby d22_34) rfl (l' := #[.val (.ref V), .val (.int ((Int32.ofNat (2 * i)) + (1 : Int32))), .val (.int (Int32.ofNat c))]) rfl w_k)))) ?_
  show Gd _ _ _ _ (T1.setTop (mkF m 37 #[.val (.ref V), .val (.int ((Int32.ofNat (2 * i)) + (1 : Int32))), .val (.int (Int32.ofNat c))] [(.int (Int32.ofNat (2 * i))), (.ref V)]))
  rw [own_incN]
  show Gd _ _ _ _ (T1.setTop (mkF m 37 #[.val (.ref V), .val (.int (Int32.ofNat (2 * i + 1))), .val (.int (Int32.ofNat c))] [(.int (Int32.ofNat (2 * i))), (.ref V)]))
  refine Gd.go (fun _ w_k => XS.iloadN X1.here hx rfl (hb hby d22_37) rfl w_k) ?_
  show Gd _ _ _ _ (T1.setTop (mkF m 38 #[.val (.ref V), .val (.int (Int32.ofNat (2 * i + 1))), .val (.int (Int32.ofNat c))] [(.int (Int32.ofNat c)), (.int (Int32.ofNat (2 * i))), (.ref V)]))
  obtain ⟨T2, X2, e2, st2⟩ := getS2 X1 hx hZ hown (host := "") (Or.inl (ow hw 99 rfl)) Via.refl e1 (G.2.2.2.2.2.1.ext O0.2) (g := (mkF m 38 #[.val (.ref V), .val (.int (Int32.ofNat (2 * i + 1))), .val (.int (Int32.ofNat c))] [(.int (Int32.ofNat c)), (.int (Int32.ofNat (2 * i))), (.ref V)])) rfl (hb hby d22_38)
  refine Gd.go (fun _ w_k => st2 _ (XS.ishr X2.here hx rfl (hb hby d22_41) rfl (XS.i2b X2.here hx rfl (hb hby d22_42) rfl w_k))) ?_
  show Gd _ _ _ _ (T2.setTop (mkF m 43 #[.val (.ref V), .val (.int (Int32.ofNat (2 * i + 1))), .val (.int (Int32.ofNat c))] [(.int (((Int32.ofNat c) >>> ((0 : Int32) &&& 31)).toInt8.toInt32)), (.int (Int32.ofNat (2 * i))), (.ref V)]))
  obtain ⟨T3, h3, X3, e3, W3, st3⟩ := own_stB X2 hx hZ e2 A0 (j := (Int32.ofNat (2 * i))) (by rw [own_ofN (by omega)]; omega) (by rw [own_ofN (by omega)]; omega) (g := (mkF m 43 #[.val (.ref V), .val (.int (Int32.ofNat (2 * i + 1))), .val (.int (Int32.ofNat c))] [(.int (((Int32.ofNat c) >>> ((0 : Int32) &&& 31)).toInt8.toInt32)), (.int (Int32.ofNat (2 * i))), (.ref V)])) rfl rfl (hb hby d22_43)
  refine Gd.go (fun _ w_k => st3 _ w_k) ?_
  have xF4 := A0.set W3
  have xN5 := Fr.snoc X3 N0 gV
  have xO6 := Old.wr O0 W3 gV
  have xK7 := Keep.wr K0 W3 (Or.inl (by simp))
  show Gd _ _ _ _ (T3.setTop (mkF m 44 #[.val (.ref V), .val (.int (Int32.ofNat (2 * i + 1))), .val (.int (Int32.ofNat c))] []))
  refine Gd.go (fun _ w_k => XS.aloadN X3.here hx rfl (hb hby d22_44) rfl rfl (XS.iloadN X3.here hx rfl (hb hby d22_45) rfl (XS.iloadN X3.here hx rfl (hb hby d22_46) rfl w_k))) ?_
  show Gd _ _ _ _ (T3.setTop (mkF m 47 #[.val (.ref V), .val (.int (Int32.ofNat (2 * i + 1))), .val (.int (Int32.ofNat c))] [(.int (Int32.ofNat c)), (.int (Int32.ofNat (2 * i + 1))), (.ref V)]))
  obtain ⟨T8, X8, e8, st8⟩ := getS2 X3 hx hZ hown (host := "") (Or.inl (ow hw 100 rfl)) Via.refl e3 (G.2.2.2.2.2.2.ext xO6.2) (g := (mkF m 47 #[.val (.ref V), .val (.int (Int32.ofNat (2 * i + 1))), .val (.int (Int32.ofNat c))] [(.int (Int32.ofNat c)), (.int (Int32.ofNat (2 * i + 1))), (.ref V)])) rfl (hb hby d22_47)
  refine Gd.go (fun _ w_k => st8 _ (XS.ishr X8.here hx rfl (hb hby d22_50) rfl (XS.i2b X8.here hx rfl (hb hby d22_51) rfl w_k))) ?_
  show Gd _ _ _ _ (T8.setTop (mkF m 52 #[.val (.ref V), .val (.int (Int32.ofNat (2 * i + 1))), .val (.int (Int32.ofNat c))] [(.int (((Int32.ofNat c) >>> ((8 : Int32) &&& 31)).toInt8.toInt32)), (.int (Int32.ofNat (2 * i + 1))), (.ref V)]))
  obtain ⟨T9, h9, X9, e9, W9, st9⟩ := own_stB X8 hx hZ e8 xF4 (j := (Int32.ofNat (2 * i + 1))) (by rw [own_ofN (by omega)]; omega) (by rw [own_ofN (by omega)]; omega) (g := (mkF m 52 #[.val (.ref V), .val (.int (Int32.ofNat (2 * i + 1))), .val (.int (Int32.ofNat c))] [(.int (((Int32.ofNat c) >>> ((8 : Int32) &&& 31)).toInt8.toInt32)), (.int (Int32.ofNat (2 * i + 1))), (.ref V)])) rfl rfl (hb hby d22_52)
  refine Gd.go (fun _ w_k => st9 _ w_k) ?_
  have xF10 := xF4.set W9
  have xN11 := Fr.snoc X9 xN5 gV
  have xO12 := Old.wr xO6 W9 gV
  have xK13 := Keep.wr xK7 W9 (Or.inl (by simp))
  show Gd _ _ _ _ (T9.setTop (mkF m 53 #[.val (.ref V), .val (.int (Int32.ofNat (2 * i + 1))), .val (.int (Int32.ofNat c))] []))
  refine own_retV X9 hx hret hlk (hb hby d22_53) ?_ (by decide) (by decide)
  rw [e9]
  have xA := xF10
  rw [own_ofC (by omega), own_ofC (by omega), own_narB, own_narB] at xA
  refine ⟨rfl, xK13, xA.congr (fun k _ => ?_), xO12, xN11⟩
  unfold own_put upd own_bt own_hi
  by_cases q1 : k = 2 * i
  · rw [if_neg (by omega), if_pos q1, if_pos q1, own_sh0]
  · by_cases q2 : k = 2 * i + 1
    · simp only [eq_false q1, eq_true q2, if_true, if_false]
    · simp only [eq_false q1, eq_false q2, if_false]
theorem own_pn19 : plainFor (⟨"java/lang/StringUTF16", "toBytes", "([CII)[B"⟩ : MethodName) = true := by first | exact plainFor_of_name (by first | (simp [plainName, overriddenIn, x]; done) | decide +kernel) | decide +kernel
theorem ef_19 (m : MethodId) (q0 : Addr) (q1 : Int32) (q2 : Int32) : entryFrame m #[(.ref q0), (.int q1), (.int q2)] 5 = mkF m 0 #[.val (.ref q0), .val (.int q1), .val (.int q2), .unset, .unset] [] := by first | (simp [entryFrame, mkF, argsToLocals, Value.category, maxLocals]; done) | rfl
theorem d19_0 : decode jdk_52_method_14_code 0 = .ok (.iload_n 2, 1) := by decide +kernel
theorem own_pd12 : parseMethodDescriptor "(I)[B" = some ⟨[.int], some (.array .byte)⟩ := by decide +kernel
theorem d19_1 : decode jdk_52_method_14_code 1 = .ok (.invokestatic 107, 3) := by decide +kernel
theorem d19_4 : decode jdk_52_method_14_code 4 = .ok (.astore_n 3, 1) := by decide +kernel
theorem d19_5 : decode jdk_52_method_14_code 5 = .ok (.iconst 0, 1) := by decide +kernel
theorem d19_6 : decode jdk_52_method_14_code 6 = .ok (.istore 4, 2) := by decide +kernel
theorem d19_8 : decode jdk_52_method_14_code 8 = .ok (.iload 4, 2) := by decide +kernel
theorem d19_10 : decode jdk_52_method_14_code 10 = .ok (.iload_n 2, 1) := by decide +kernel
theorem d19_11 : decode jdk_52_method_14_code 11 = .ok (.if_icmp .ge 21, 3) := by decide +kernel
theorem d19_32 : decode jdk_52_method_14_code 32 = .ok (.aload_n 3, 1) := by decide +kernel
theorem d19_33 : decode jdk_52_method_14_code 33 = .ok (.areturn, 1) := by decide +kernel
theorem d19_14 : decode jdk_52_method_14_code 14 = .ok (.aload_n 3, 1) := by decide +kernel
theorem d19_15 : decode jdk_52_method_14_code 15 = .ok (.iload 4, 2) := by decide +kernel
theorem d19_17 : decode jdk_52_method_14_code 17 = .ok (.aload_n 0, 1) := by decide +kernel
theorem d19_18 : decode jdk_52_method_14_code 18 = .ok (.iload_n 1, 1) := by decide +kernel
theorem d19_19 : decode jdk_52_method_14_code 19 = .ok (.caload, 1) := by decide +kernel
theorem own_pd13 : parseMethodDescriptor "([BII)V" = some ⟨[(.array .byte), .int, .int], none⟩ := by decide +kernel
theorem d19_20 : decode jdk_52_method_14_code 20 = .ok (.invokestatic 111, 3) := by decide +kernel
theorem d19_23 : decode jdk_52_method_14_code 23 = .ok (.iinc 1 1, 3) := by decide +kernel
theorem d19_26 : decode jdk_52_method_14_code 26 = .ok (.iinc 4 1, 3) := by decide +kernel
theorem d19_29 : decode jdk_52_method_14_code 29 = .ok (.goto (-21), 3) := by decide +kernel
set_option maxRecDepth 65536 in
set_option maxHeartbeats 40000000 in
theorem own_c19 (l : Launch) (Z : State) (a0 : Array Value) (hw : ∀ d ∈ tables_1, d.before a0 Z = true) (cs : Int32) (gv : Value) (G : own_G Z cs gv) (h0 : Heap) (n0 : Nat) (O0 : Old Z n0 h0) (Z0 : n0 ≤ h0.size) (A : Addr) (n : Nat) (hn : n ≤ 4) (f : Nat → Nat) (fb : own_by f) (A0 : ArF Z h0 A .char n (own_chs f)) :
    Con l Z (⟨"java/lang/StringUTF16", "toBytes", "([CII)[B"⟩ : MethodName) jdk_52_method_14_code 5 (some (.array .byte)) [] ({ frames := 2, cells := 1, slots := 8, locals := 24 } : Room) 1 8 #[(.ref A), (.int (0 : Int32)), (.int (Int32.ofNat n))] h0 (fun r h L => ∃ W, r = some (.ref W) ∧ h0.size ≤ W ∧ Keep h0 h [] ∧ ArF Z h W .byte (2 * n) (own_utf f) ∧ Old Z n0 h ∧ Fr n0 L) := by
  refine Con.of own_pn19 ?_
  intro pg ev s_ m bl mt cd s₁ hx hby hml hown hnm hret hlk hZ X0 e0
  rw [ef_19]
  show Gd _ _ _ _ (s₁.setTop (mkF m 0 #[.val (.ref A), .val (.int (0 : Int32)), .val (.int (Int32.ofNat n)), .unset, .unset] []))
  have N0 := Fr.nil n0
  have K0 := Keep.refl h0 []
  refine Gd.go (fun _ w_k => XS.iloadN X0.here hx rfl (hb hby d19_0) rfl w_k) ?_
  show Gd _ _ _ _ (s₁.setTop (mkF m 1 #[.val (.ref A), .val (.int (0 : Int32)), .val (.int (Int32.ofNat n)), .unset, .unset] [(.int (Int32.ofNat n))]))
  have ltA := A0.lt
  obtain ⟨v1, T1, L1, X1, hQ1, st1⟩ := own_callS X0 hx hZ (y := (⟨"java/lang/StringUTF16", "newBytesFor", "(I)[B"⟩ : MethodName)) hown (ow hw 88 rfl) (ow hw 89 rfl) (ow hw 44 rfl) (ow hw 90 rfl) (by decide) (W := 0) (own_c20 l Z a0 hw cs gv G h0 n0 O0 Z0 n hn) rfl rfl e0 (by decide) (by decide) (g := (mkF m 1 #[.val (.ref A), .val (.int (0 : Int32)), .val (.int (Int32.ofNat n)), .unset, .unset] [(.int (Int32.ofNat n))])) rfl (by rw [hml]; rfl) (argsL := [(.int (Int32.ofNat n))]) (rest := []) (lenOf own_pd12 rfl) rfl (Nat.le_of_eq rfl) (hb hby d19_1) rfl (by decide) (by decide)
  obtain ⟨W, rfl, qW, K1, A1, O1, N1⟩ := hQ1
  refine Gd.go (fun _ w_k => st1 _ w_k) ?_
  show Gd _ _ _ _ (T1.setTop (mkF m 4 #[.val (.ref A), .val (.int (0 : Int32)), .val (.int (Int32.ofNat n)), .unset, .unset] [(.ref W)]))
  have xF2 := A0.keep K1 nin0
  have xZs3 := Nat.le_trans Z0 K1.1
  have xN4 := Fr.app N0 N1
  have xK5 := Keep.trans K0 K1 all0
  have neA : A ≠ W := Nat.ne_of_lt (Nat.lt_of_lt_of_le ltA qW)
  have gW := Nat.le_trans Z0 qW
  refine Gd.go (fun _ w_k => XS.astoreN X1.here hx rfl (hb hby d19_4) rfl rfl (l' := #[.val (.ref A), .val (.int (0 : Int32)), .val (.int (Int32.ofNat n)), .val (.ref W), .unset]) rfl (XS.iconst X1.here hx rfl (hb hby d19_5) (XS.istore X1.here hx rfl (hb hby d19_6) rfl (l' := #[.val (.ref A), .val (.int (0 : Int32)), .val (.int (Int32.ofNat n)), .val (.ref W), .val (.int (0 : Int32))]) rfl w_k))) ?_
  show Gd _ _ _ _ (T1.setTop (mkF m 8 #[.val (.ref A), .val (.int (0 : Int32)), .val (.int (Int32.ofNat n)), .val (.ref W), .val (.int (0 : Int32))] []))
  have loop : ∀ (q i : Nat) (F : Nat → Value) (T : State) (h : Heap) (L : List Loc), i + q = n → Stand pg l ev ({ frames := 2, cells := 1, slots := 8, locals := 24 } : Room) s_ m #[(.ref A), (.int (0 : Int32)), (.int (Int32.ofNat n))] bl mt cd T L 1 8 → T.heap = h → ArF Z h A .char n (own_chs f) → ArF Z h W .byte (2 * n) F → Keep h0 h [] → Old Z n0 h → Fr n0 L → (∀ k, k < 2 * i → F k = own_utf f k) → Gd pg.tables ev bl (Owes s_ 1 8 (fun r h L => ∃ W, r = some (.ref W) ∧ h0.size ≤ W ∧ Keep h0 h [] ∧ ArF Z h W .byte (2 * n) (own_utf f) ∧ Old Z n0 h ∧ Fr n0 L)) (T.setTop (mkF m 8 #[.val (.ref A), .val (.int (Int32.ofNat i)), .val (.int (Int32.ofNat n)), .val (.ref W), .val (.int (Int32.ofNat i))] [])) := by
    intro q
    induction q with
    | zero =>
      intro i F T h L hq X eT FA FW K O N I
      refine Gd.go (fun _ w_k => XS.iload X.here hx rfl (hb hby d19_8) rfl (XS.iloadN X.here hx rfl (hb hby d19_10) rfl (XS.icmpYes X.here hx rfl (pc0 := 11) (pc' := 32) rfl (hb hby d19_11) rfl (flt (own_geN (by omega) (by omega))).2.1 (by decide) (by decide) w_k))) ?_
      show Gd _ _ _ _ (T.setTop (mkF m 32 #[.val (.ref A), .val (.int (Int32.ofNat i)), .val (.int (Int32.ofNat n)), .val (.ref W), .val (.int (Int32.ofNat i))] []))
      refine Gd.go (fun _ w_k => XS.aloadN X.here hx rfl (hb hby d19_32) rfl rfl w_k) ?_
      show Gd _ _ _ _ (T.setTop (mkF m 33 #[.val (.ref A), .val (.int (Int32.ofNat i)), .val (.int (Int32.ofNat n)), .val (.ref W), .val (.int (Int32.ofNat i))] [(.ref W)]))
      refine own_retA X hx hret hlk rfl (hb hby d19_33) ?_ (by decide) (by decide)
      rw [eT]
      exact ⟨W, rfl, qW, K, ArF.congr FW (fun k hk => I k (by omega)), O, N⟩
    | succ q ih =>
      intro i F T h L hq X eT FA FW K O N I
      refine Gd.go (fun _ w_k => XS.iload X.here hx rfl (hb hby d19_8) rfl (XS.iloadN X.here hx rfl (hb hby d19_10) rfl (XS.icmpNo X.here hx rfl (hb hby d19_11) rfl (tlt (own_ltN (by omega) (by omega))).2.1 w_k))) ?_
      show Gd _ _ _ _ (T.setTop (mkF m 14 #[.val (.ref A), .val (.int (Int32.ofNat i)), .val (.int (Int32.ofNat n)), .val (.ref W), .val (.int (Int32.ofNat i))] []))
      refine Gd.go (fun _ w_k => XS.aloadN X.here hx rfl (hb hby d19_14) rfl rfl (XS.iload X.here hx rfl (hb hby d19_15) rfl (XS.aloadN X.here hx rfl (hb hby d19_17) rfl rfl (XS.iloadN X.here hx rfl (hb hby d19_18) rfl (own_ldC X hx hZ eT FA (j := (Int32.ofNat i)) (by rw [own_ofN (by omega)]; omega) (by rw [own_ofN (by omega)]; omega) (v := (.int (Int32.ofNat (f i)))) (by rw [own_ofC (by omega)]; rfl) (g := (mkF m 19 #[.val (.ref A), .val (.int (Int32.ofNat i)), .val (.int (Int32.ofNat n)), .val (.ref W), .val (.int (Int32.ofNat i))] [(.int (Int32.ofNat i)), (.ref A), (.int (Int32.ofNat i)), (.ref W)])) rfl rfl (hb hby d19_19) _ w_k))))) ?_
      show Gd _ _ _ _ (T.setTop (mkF m 20 #[.val (.ref A), .val (.int (Int32.ofNat i)), .val (.int (Int32.ofNat n)), .val (.ref W), .val (.int (Int32.ofNat i))] [(.int (Int32.ofNat (f i))), (.int (Int32.ofNat i)), (.ref W)]))
      obtain ⟨v6, T6, L6, X6, hQ6, st6⟩ := own_callS X hx hZ (y := (⟨"java/lang/StringUTF16", "putChar", "([BII)V"⟩ : MethodName)) hown (ow hw 95 rfl) (ow hw 96 rfl) (ow hw 44 rfl) (ow hw 97 rfl) (by decide) (W := 0) (own_c22 l Z a0 hw cs gv G h n0 O W gW n hn F FW i (f i) (by omega)) rfl rfl eT (by decide) (by decide) (g := (mkF m 20 #[.val (.ref A), .val (.int (Int32.ofNat i)), .val (.int (Int32.ofNat n)), .val (.ref W), .val (.int (Int32.ofNat i))] [(.int (Int32.ofNat (f i))), (.int (Int32.ofNat i)), (.ref W)])) rfl (by rw [hml]; rfl) (argsL := [(.ref W), (.int (Int32.ofNat i)), (.int (Int32.ofNat (f i)))]) (rest := []) (lenOf own_pd13 rfl) rfl (Nat.le_of_eq rfl) (hb hby d19_20) rfl (by decide) (by decide)
      obtain ⟨rfl, Kp, Ap, Op, Np⟩ := hQ6
      refine Gd.go (fun _ w_k => st6 _ w_k) ?_
      show Gd _ _ _ _ (T6.setTop (mkF m 23 #[.val (.ref A), .val (.int (Int32.ofNat i)), .val (.int (Int32.ofNat n)), .val (.ref W), .val (.int (Int32.ofNat i))] []))
      have xF7 := FA.keep Kp (ninS neA nin0)
      have xN8 := Fr.app N Np
      have xK9 := Keep.trans K Kp (allS (P := fun z => z ∈ ([] : List Addr) ∨ h0.size ≤ z) (Or.inr qW) all0)
      refine Gd.go (fun _ w_k => XS.iinc X6.here hx rfl (hb hby d19_23) rfl (l' := #[.val (.ref A), .val (.int ((Int32.ofNat i) + (1 : Int32))), .val (.int (Int32.ofNat n)), .val (.ref W), .val (.int (Int32.ofNat i))]) rfl w_k) ?_
      show Gd _ _ _ _ (T6.setTop (mkF m 26 #[.val (.ref A), .val (.int ((Int32.ofNat i) + (1 : Int32))), .val (.int (Int32.ofNat n)), .val (.ref W), .val (.int (Int32.ofNat i))] []))
      rw [own_incN]
      show Gd _ _ _ _ (T6.setTop (mkF m 26 #[.val (.ref A), .val (.int (Int32.ofNat (i + 1))), .val (.int (Int32.ofNat n)), .val (.ref W), .val (.int (Int32.ofNat i))] []))
      refine Gd.go (fun _ w_k => XS.iinc X6.here hx rfl (hb hby d19_26) rfl (l' := #[.val (.ref A), .val (.int (Int32.ofNat (i + 1))), .val (.int (Int32.ofNat n)), .val (.ref W), .val (.int ((Int32.ofNat i) + (1 : Int32)))]) rfl w_k) ?_
      show Gd _ _ _ _ (T6.setTop (mkF m 29 #[.val (.ref A), .val (.int (Int32.ofNat (i + 1))), .val (.int (Int32.ofNat n)), .val (.ref W), .val (.int ((Int32.ofNat i) + (1 : Int32)))] []))
      rw [own_incN]
      show Gd _ _ _ _ (T6.setTop (mkF m 29 #[.val (.ref A), .val (.int (Int32.ofNat (i + 1))), .val (.int (Int32.ofNat n)), .val (.ref W), .val (.int (Int32.ofNat (i + 1)))] []))
      refine Gd.go (fun _ w_k => XS.goto X6.here hx rfl (pc0 := 29) (pc' := 8) rfl (hb hby d19_29) (by decide) (by decide) w_k) ?_
      show Gd _ _ _ _ (T6.setTop (mkF m 8 #[.val (.ref A), .val (.int (Int32.ofNat (i + 1))), .val (.int (Int32.ofNat n)), .val (.ref W), .val (.int (Int32.ofNat (i + 1)))] []))
      refine ih (i + 1) _ T6 T6.heap _ (by omega) X6 rfl xF7 Ap xK9 Op xN8 (fun k hk => ?_)
      unfold own_put own_utf
      by_cases q1 : k = 2 * i
      · rw [if_pos q1, if_pos (by omega), show k / 2 = i by omega]
      · rw [if_neg q1]
        by_cases q2 : k = 2 * i + 1
        · rw [if_pos q2, if_neg (by omega), show k / 2 = i by omega]
        · rw [if_neg q2]; exact I k (by omega)
  exact loop n 0 _ T1 T1.heap _ (by omega) X1 rfl xF2 A1 xK5 O1 xN4 (fun k hk => absurd hk (by omega))
theorem own_pn20 : plainFor (⟨"java/lang/StringUTF16", "compress", "([CI[BII)I"⟩ : MethodName) = true := by first | exact plainFor_of_name (by first | (simp [plainName, overriddenIn, x]; done) | decide +kernel) | decide +kernel
theorem ef_9 (m : MethodId) (q0 : Addr) (q1 : Int32) (q2 : Addr) (q3 : Int32) (q4 : Int32) : entryFrame m #[(.ref q0), (.int q1), (.ref q2), (.int q3), (.int q4)] 7 = mkF m 0 #[.val (.ref q0), .val (.int q1), .val (.ref q2), .val (.int q3), .val (.int q4), .unset, .unset] [] := by first | (simp [entryFrame, mkF, argsToLocals, Value.category, maxLocals]; done) | rfl
theorem d9_3 : decode jdk_52_method_21_code 3 = .ok (.iload 5, 2) := by decide +kernel
theorem d9_5 : decode jdk_52_method_21_code 5 = .ok (.iload 4, 2) := by decide +kernel
theorem d9_7 : decode jdk_52_method_21_code 7 = .ok (.if_icmp .ge 37, 3) := by decide +kernel
theorem d9_44 : decode jdk_52_method_21_code 44 = .ok (.iload 4, 2) := by decide +kernel
theorem d9_46 : decode jdk_52_method_21_code 46 = .ok (.ireturn, 1) := by decide +kernel
theorem d9_10 : decode jdk_52_method_21_code 10 = .ok (.aload_n 0, 1) := by decide +kernel
theorem d9_11 : decode jdk_52_method_21_code 11 = .ok (.iload_n 1, 1) := by decide +kernel
theorem d9_12 : decode jdk_52_method_21_code 12 = .ok (.caload, 1) := by decide +kernel
theorem d9_13 : decode jdk_52_method_21_code 13 = .ok (.istore 6, 2) := by decide +kernel
theorem d9_15 : decode jdk_52_method_21_code 15 = .ok (.iload 6, 2) := by decide +kernel
theorem d9_17 : decode jdk_52_method_21_code 17 = .ok (.sipush 255, 3) := by decide +kernel
theorem d9_20 : decode jdk_52_method_21_code 20 = .ok (.if_icmp .le 6, 3) := by decide +kernel
theorem d9_23 : decode jdk_52_method_21_code 23 = .ok (.iload 5, 2) := by decide +kernel
theorem d9_25 : decode jdk_52_method_21_code 25 = .ok (.ireturn, 1) := by decide +kernel
theorem d9_26 : decode jdk_52_method_21_code 26 = .ok (.aload_n 2, 1) := by decide +kernel
theorem d9_27 : decode jdk_52_method_21_code 27 = .ok (.iload_n 3, 1) := by decide +kernel
theorem d9_28 : decode jdk_52_method_21_code 28 = .ok (.iload 6, 2) := by decide +kernel
theorem d9_30 : decode jdk_52_method_21_code 30 = .ok (.i2b, 1) := by decide +kernel
theorem d9_31 : decode jdk_52_method_21_code 31 = .ok (.bastore, 1) := by decide +kernel
theorem d9_32 : decode jdk_52_method_21_code 32 = .ok (.iinc 1 1, 3) := by decide +kernel
theorem d9_35 : decode jdk_52_method_21_code 35 = .ok (.iinc 3 1, 3) := by decide +kernel
theorem d9_38 : decode jdk_52_method_21_code 38 = .ok (.iinc 5 1, 3) := by decide +kernel
theorem d9_41 : decode jdk_52_method_21_code 41 = .ok (.goto (-38), 3) := by decide +kernel
theorem d9_0 : decode jdk_52_method_21_code 0 = .ok (.iconst 0, 1) := by decide +kernel
theorem d9_1 : decode jdk_52_method_21_code 1 = .ok (.istore 5, 2) := by decide +kernel
set_option maxRecDepth 65536 in
set_option maxHeartbeats 40000000 in
theorem own_c9 (l : Launch) (Z : State) (a0 : Array Value) (hw : ∀ d ∈ tables_1, d.before a0 Z = true) (cs : Int32) (gv : Value) (G : own_G Z cs gv) (h0 : Heap) (n0 : Nat) (O0 : Old Z n0 h0) (A : Addr) (n : Nat) (hn : n ≤ 4) (f : Nat → Nat) (fb : own_by f) (A0 : ArF Z h0 A .char n (own_chs f)) (W : Addr) (gW : n0 ≤ W) (neA : A ≠ W) (W0 : ArF Z h0 W .byte n (fun _ => .int (0 : Int32))) :
    Con l Z (⟨"java/lang/StringUTF16", "compress", "([CI[BII)I"⟩ : MethodName) jdk_52_method_21_code 7 (some .int) [] ({ frames := 0, cells := 0, slots := 0, locals := 0 } : Room) 0 0 #[(.ref A), (.int (0 : Int32)), (.ref W), (.int (0 : Int32)), (.int (Int32.ofNat n))] h0 (fun r h L => (∃ j F, r = some (.int (Int32.ofNat j)) ∧ j ≤ n ∧ ArF Z h W .byte n F ∧ ((j = n ∧ (∀ i, i < n → f i < 256) ∧ ∀ i, i < n → F i = own_lat f i) ∨ (j < n ∧ 255 < f j))) ∧ Keep h0 h [W] ∧ Old Z n0 h ∧ Fr n0 L) := by
  refine Con.of own_pn20 ?_
  intro pg ev s_ m bl mt cd s₁ hx hby hml hown hnm hret hlk hZ X0 e0
  rw [ef_9]
  show Gd _ _ _ _ (s₁.setTop (mkF m 0 #[.val (.ref A), .val (.int (0 : Int32)), .val (.ref W), .val (.int (0 : Int32)), .val (.int (Int32.ofNat n)), .unset, .unset] []))
  have N0 := Fr.nil n0
  have K0 := Keep.refl h0 [W]
  have loop : ∀ (q i : Nat) (F : Nat → Value) (T : State) (h : Heap) (L : List Loc) (s6 : Slot), (s6 = .unset ∨ ∃ z : Int32, s6 = .val (.int z)) → i + q = n → Stand pg l ev ({ frames := 0, cells := 0, slots := 0, locals := 0 } : Room) s_ m #[(.ref A), (.int (0 : Int32)), (.ref W), (.int (0 : Int32)), (.int (Int32.ofNat n))] bl mt cd T L 0 0 → T.heap = h → ArF Z h A .char n (own_chs f) → ArF Z h W .byte n F → Keep h0 h [W] → Old Z n0 h → Fr n0 L → (∀ k, k < i → f k < 256 ∧ F k = own_lat f k) → Gd pg.tables ev bl (Owes s_ 0 0 (fun r h L => (∃ j F, r = some (.int (Int32.ofNat j)) ∧ j ≤ n ∧ ArF Z h W .byte n F ∧ ((j = n ∧ (∀ i, i < n → f i < 256) ∧ ∀ i, i < n → F i = own_lat f i) ∨ (j < n ∧ 255 < f j))) ∧ Keep h0 h [W] ∧ Old Z n0 h ∧ Fr n0 L)) (T.setTop (mkF m 3 #[.val (.ref A), .val (.int (Int32.ofNat i)), .val (.ref W), .val (.int (Int32.ofNat i)), .val (.int (Int32.ofNat n)), .val (.int (Int32.ofNat i)), s6] [])) := by
    intro q
    induction q with
    | zero =>
      intro i F T h L s6 h6 hq X eT FA FW K O N I
      refine Gd.go (fun _ w_k => XS.iload X.here hx rfl (hb hby d9_3) rfl (XS.iload X.here hx rfl (hb hby d9_5) rfl (XS.icmpYes X.here hx rfl (pc0 := 7) (pc' := 44) rfl (hb hby d9_7) rfl (flt (own_geN (by omega) (by omega))).2.1 (by decide) (by decide) w_k))) ?_
      show Gd _ _ _ _ (T.setTop (mkF m 44 #[.val (.ref A), .val (.int (Int32.ofNat i)), .val (.ref W), .val (.int (Int32.ofNat i)), .val (.int (Int32.ofNat n)), .val (.int (Int32.ofNat i)), s6] []))
      refine Gd.go (fun _ w_k => XS.iload X.here hx rfl (hb hby d9_44) rfl w_k) ?_
      show Gd _ _ _ _ (T.setTop (mkF m 46 #[.val (.ref A), .val (.int (Int32.ofNat i)), .val (.ref W), .val (.int (Int32.ofNat i)), .val (.int (Int32.ofNat n)), .val (.int (Int32.ofNat i)), s6] [(.int (Int32.ofNat n))]))
      refine own_retI X hx hret hlk (hb hby d9_46) ?_ (by decide) (by decide)
      rw [eT]
      exact ⟨⟨n, F, rfl, by omega, FW, Or.inl ⟨rfl, fun k hk => (I k (by omega)).1, fun k hk => (I k (by omega)).2⟩⟩, K, O, N⟩
    | succ q ih =>
      intro i F T h L s6 h6 hq X eT FA FW K O N I
      refine Gd.go (fun _ w_k => XS.iload X.here hx rfl (hb hby d9_3) rfl (XS.iload X.here hx rfl (hb hby d9_5) rfl (XS.icmpNo X.here hx rfl (hb hby d9_7) rfl (tlt (own_ltN (by omega) (by omega))).2.1 w_k))) ?_
      show Gd _ _ _ _ (T.setTop (mkF m 10 #[.val (.ref A), .val (.int (Int32.ofNat i)), .val (.ref W), .val (.int (Int32.ofNat i)), .val (.int (Int32.ofNat n)), .val (.int (Int32.ofNat i)), s6] []))
      refine Gd.go (fun _ w_k => XS.aloadN X.here hx rfl (hb hby d9_10) rfl rfl (XS.iloadN X.here hx rfl (hb hby d9_11) rfl (own_ldC X hx hZ eT FA (j := (Int32.ofNat i)) (by rw [own_ofN (by omega)]; omega) (by rw [own_ofN (by omega)]; omega) (v := (.int (Int32.ofNat (f i)))) (by rw [own_ofC (by omega)]; rfl) (g := (mkF m 12 #[.val (.ref A), .val (.int (Int32.ofNat i)), .val (.ref W), .val (.int (Int32.ofNat i)), .val (.int (Int32.ofNat n)), .val (.int (Int32.ofNat i)), s6] [(.int (Int32.ofNat i)), (.ref A)])) rfl rfl (hb hby d9_12) _ (XS.istore X.here hx rfl (hb hby d9_13) rfl (l' := #[.val (.ref A), .val (.int (Int32.ofNat i)), .val (.ref W), .val (.int (Int32.ofNat i)), .val (.int (Int32.ofNat n)), .val (.int (Int32.ofNat i)), .val (.int (Int32.ofNat (f i)))]) (by rcases h6 with rfl | ⟨_, rfl⟩ <;> rfl) (XS.iload X.here hx rfl (hb hby d9_15) rfl (XS.sipush X.here hx rfl (hb hby d9_17) w_k)))))) ?_
      show Gd _ _ _ _ (T.setTop (mkF m 20 #[.val (.ref A), .val (.int (Int32.ofNat i)), .val (.ref W), .val (.int (Int32.ofNat i)), .val (.int (Int32.ofNat n)), .val (.int (Int32.ofNat i)), .val (.int (Int32.ofNat (f i)))] [(.int (255 : Int32)), (.int (Int32.ofNat (f i)))]))
      by_cases w1 : 255 < f i
      · refine Gd.go (fun _ w_k => XS.icmpNo X.here hx rfl (hb hby d9_20) rfl (tlt ((own_gtL (fb i) 255 (by decide) rfl).mpr w1)).2.2.2 w_k) ?_
        show Gd _ _ _ _ (T.setTop (mkF m 23 #[.val (.ref A), .val (.int (Int32.ofNat i)), .val (.ref W), .val (.int (Int32.ofNat i)), .val (.int (Int32.ofNat n)), .val (.int (Int32.ofNat i)), .val (.int (Int32.ofNat (f i)))] []))
        refine Gd.go (fun _ w_k => XS.iload X.here hx rfl (hb hby d9_23) rfl w_k) ?_
        show Gd _ _ _ _ (T.setTop (mkF m 25 #[.val (.ref A), .val (.int (Int32.ofNat i)), .val (.ref W), .val (.int (Int32.ofNat i)), .val (.int (Int32.ofNat n)), .val (.int (Int32.ofNat i)), .val (.int (Int32.ofNat (f i)))] [(.int (Int32.ofNat i))]))
        refine own_retI X hx hret hlk (hb hby d9_25) ?_ (by decide) (by decide)
        rw [eT]
        exact ⟨⟨i, F, rfl, by omega, FW, Or.inr ⟨by omega, w1⟩⟩, K, O, N⟩
      · refine Gd.go (fun _ w_k => XS.icmpYes X.here hx rfl (pc0 := 20) (pc' := 26) rfl (hb hby d9_20) rfl (flt (fun q => w1 ((own_gtL (fb i) 255 (by decide) rfl).mp q))).2.2.2 (by decide) (by decide) w_k) ?_
        show Gd _ _ _ _ (T.setTop (mkF m 26 #[.val (.ref A), .val (.int (Int32.ofNat i)), .val (.ref W), .val (.int (Int32.ofNat i)), .val (.int (Int32.ofNat n)), .val (.int (Int32.ofNat i)), .val (.int (Int32.ofNat (f i)))] []))
        refine Gd.go (fun _ w_k => XS.aloadN X.here hx rfl (hb hby d9_26) rfl rfl (XS.iloadN X.here hx rfl (hb hby d9_27) rfl (XS.iload X.here hx rfl (hb hby d9_28) rfl (XS.i2b X.here hx rfl (hb hby d9_30) rfl w_k)))) ?_
        show Gd _ _ _ _ (T.setTop (mkF m 31 #[.val (.ref A), .val (.int (Int32.ofNat i)), .val (.ref W), .val (.int (Int32.ofNat i)), .val (.int (Int32.ofNat n)), .val (.int (Int32.ofNat i)), .val (.int (Int32.ofNat (f i)))] [(.int ((Int32.ofNat (f i)).toInt8.toInt32)), (.int (Int32.ofNat i)), (.ref W)]))
        obtain ⟨T1, h1, X1, e1, W1, st1⟩ := own_stB X hx hZ eT FW (j := (Int32.ofNat i)) (by rw [own_ofN (by omega)]; omega) (by rw [own_ofN (by omega)]; omega) (g := (mkF m 31 #[.val (.ref A), .val (.int (Int32.ofNat i)), .val (.ref W), .val (.int (Int32.ofNat i)), .val (.int (Int32.ofNat n)), .val (.int (Int32.ofNat i)), .val (.int (Int32.ofNat (f i)))] [(.int ((Int32.ofNat (f i)).toInt8.toInt32)), (.int (Int32.ofNat i)), (.ref W)])) rfl rfl (hb hby d9_31)
        refine Gd.go (fun _ w_k => st1 _ w_k) ?_
        have xF2 := FA.other W1 neA
        have xF3 := FW.set W1
        have xN4 := Fr.snoc X1 N gW
        have xO5 := Old.wr O W1 gW
        have xK6 := Keep.wr K W1 (Or.inl (by simp))
        show Gd _ _ _ _ (T1.setTop (mkF m 32 #[.val (.ref A), .val (.int (Int32.ofNat i)), .val (.ref W), .val (.int (Int32.ofNat i)), .val (.int (Int32.ofNat n)), .val (.int (Int32.ofNat i)), .val (.int (Int32.ofNat (f i)))] []))
        refine Gd.go (fun _ w_k => XS.iinc X1.here hx rfl (hb hby d9_32) rfl (l' := #[.val (.ref A), .val (.int ((Int32.ofNat i) + (1 : Int32))), .val (.ref W), .val (.int (Int32.ofNat i)), .val (.int (Int32.ofNat n)), .val (.int (Int32.ofNat i)), .val (.int (Int32.ofNat (f i)))]) rfl w_k) ?_
        show Gd _ _ _ _ (T1.setTop (mkF m 35 #[.val (.ref A), .val (.int ((Int32.ofNat i) + (1 : Int32))), .val (.ref W), .val (.int (Int32.ofNat i)), .val (.int (Int32.ofNat n)), .val (.int (Int32.ofNat i)), .val (.int (Int32.ofNat (f i)))] []))
        rw [own_incN]
        show Gd _ _ _ _ (T1.setTop (mkF m 35 #[.val (.ref A), .val (.int (Int32.ofNat (i + 1))), .val (.ref W), .val (.int (Int32.ofNat i)), .val (.int (Int32.ofNat n)), .val (.int (Int32.ofNat i)), .val (.int (Int32.ofNat (f i)))] []))
        refine Gd.go (fun _ w_k => XS.iinc X1.here hx rfl (hb hby d9_35) rfl (l' := #[.val (.ref A), .val (.int (Int32.ofNat (i + 1))), .val (.ref W), .val (.int ((Int32.ofNat i) + (1 : Int32))), .val (.int (Int32.ofNat n)), .val (.int (Int32.ofNat i)), .val (.int (Int32.ofNat (f i)))]) rfl w_k) ?_
        show Gd _ _ _ _ (T1.setTop (mkF m 38 #[.val (.ref A), .val (.int (Int32.ofNat (i + 1))), .val (.ref W), .val (.int ((Int32.ofNat i) + (1 : Int32))), .val (.int (Int32.ofNat n)), .val (.int (Int32.ofNat i)), .val (.int (Int32.ofNat (f i)))] []))
        rw [own_incN]
        show Gd _ _ _ _ (T1.setTop (mkF m 38 #[.val (.ref A), .val (.int (Int32.ofNat (i + 1))), .val (.ref W), .val (.int (Int32.ofNat (i + 1))), .val (.int (Int32.ofNat n)), .val (.int (Int32.ofNat i)), .val (.int (Int32.ofNat (f i)))] []))
        refine Gd.go (fun _ w_k => XS.iinc X1.here hx rfl (hb hby d9_38) rfl (l' := #[.val (.ref A), .val (.int (Int32.ofNat (i + 1))), .val (.ref W), .val (.int (Int32.ofNat (i + 1))), .val (.int (Int32.ofNat n)), .val (.int ((Int32.ofNat i) + (1 : Int32))), .val (.int (Int32.ofNat (f i)))]) rfl w_k) ?_
        show Gd _ _ _ _ (T1.setTop (mkF m 41 #[.val (.ref A), .val (.int (Int32.ofNat (i + 1))), .val (.ref W), .val (.int (Int32.ofNat (i + 1))), .val (.int (Int32.ofNat n)), .val (.int ((Int32.ofNat i) + (1 : Int32))), .val (.int (Int32.ofNat (f i)))] []))
        rw [own_incN]
        show Gd _ _ _ _ (T1.setTop (mkF m 41 #[.val (.ref A), .val (.int (Int32.ofNat (i + 1))), .val (.ref W), .val (.int (Int32.ofNat (i + 1))), .val (.int (Int32.ofNat n)), .val (.int (Int32.ofNat (i + 1))), .val (.int (Int32.ofNat (f i)))] []))
        refine Gd.go (fun _ w_k => XS.goto X1.here hx rfl (pc0 := 41) (pc' := 3) rfl (hb hby d9_41) (by decide) (by decide) w_k) ?_
        show Gd _ _ _ _ (T1.setTop (mkF m 3 #[.val (.ref A), .val (.int (Int32.ofNat (i + 1))), .val (.ref W), .val (.int (Int32.ofNat (i + 1))), .val (.int (Int32.ofNat n)), .val (.int (Int32.ofNat (i + 1))), .val (.int (Int32.ofNat (f i)))] []))
        have xW := xF3
        rw [own_ofC (by omega), own_narB] at xW
        refine ih (i + 1) _ T1 h1 _ _ (Or.inr ⟨_, rfl⟩) (by omega) X1 e1 xF2 xW xK6 xO5 xN4 (fun k hk => ?_)
        unfold upd
        by_cases q1 : k = i
        · subst q1; exact ⟨by omega, by rw [if_pos rfl]; rfl⟩
        · rw [if_neg q1]; exact I k (by omega)
  refine Gd.go (fun _ w_k => XS.iconst X0.here hx rfl (hb hby d9_0) (XS.istore X0.here hx rfl (hb hby d9_1) rfl (l' := #[.val (.ref A), .val (.int (0 : Int32)), .val (.ref W), .val (.int (0 : Int32)), .val (.int (Int32.ofNat n)), .val (.int (0 : Int32)), .unset]) rfl w_k)) ?_
  show Gd _ _ _ _ (s₁.setTop (mkF m 3 #[.val (.ref A), .val (.int (0 : Int32)), .val (.ref W), .val (.int (0 : Int32)), .val (.int (Int32.ofNat n)), .val (.int (0 : Int32)), .unset] []))
  exact loop n 0 _ s₁ h0 _ _ (Or.inl rfl) (by omega) X0 e0 A0 W0 K0 O0 N0 (fun k hk => absurd hk (by omega))
theorem own_pn21 : plainFor (⟨"java/lang/StringUTF16", "compress", "([CII)[B"⟩ : MethodName) = true := by first | exact plainFor_of_name (by first | (simp [plainName, overriddenIn, x]; done) | decide +kernel) | decide +kernel
theorem ef_8 (m : MethodId) (q0 : Addr) (q1 : Int32) (q2 : Int32) : entryFrame m #[(.ref q0), (.int q1), (.int q2)] 6 = mkF m 0 #[.val (.ref q0), .val (.int q1), .val (.int q2), .unset, .unset, .unset] [] := by first | (simp [entryFrame, mkF, argsToLocals, Value.category, maxLocals]; done) | rfl
theorem d8_0 : decode jdk_52_method_16_code 0 = .ok (.iload_n 2, 1) := by decide +kernel
theorem d8_1 : decode jdk_52_method_16_code 1 = .ok (.newarray .byte, 2) := by decide +kernel
theorem d8_3 : decode jdk_52_method_16_code 3 = .ok (.astore_n 3, 1) := by decide +kernel
theorem d8_4 : decode jdk_52_method_16_code 4 = .ok (.aload_n 0, 1) := by decide +kernel
theorem d8_5 : decode jdk_52_method_16_code 5 = .ok (.iload_n 1, 1) := by decide +kernel
theorem d8_6 : decode jdk_52_method_16_code 6 = .ok (.aload_n 3, 1) := by decide +kernel
theorem d8_7 : decode jdk_52_method_16_code 7 = .ok (.iconst 0, 1) := by decide +kernel
theorem d8_8 : decode jdk_52_method_16_code 8 = .ok (.iload_n 2, 1) := by decide +kernel
theorem own_pd14 : parseMethodDescriptor "([CI[BII)I" = some ⟨[(.array .char), .int, (.array .byte), .int, .int], some .int⟩ := by decide +kernel
theorem d8_9 : decode jdk_52_method_16_code 9 = .ok (.invokestatic 115, 3) := by decide +kernel
theorem d8_12 : decode jdk_52_method_16_code 12 = .ok (.istore 4, 2) := by decide +kernel
theorem d8_14 : decode jdk_52_method_16_code 14 = .ok (.iload 4, 2) := by decide +kernel
theorem d8_16 : decode jdk_52_method_16_code 16 = .ok (.iload_n 2, 1) := by decide +kernel
theorem d8_17 : decode jdk_52_method_16_code 17 = .ok (.if_icmp .eq 40, 3) := by decide +kernel
theorem d8_57 : decode jdk_52_method_16_code 57 = .ok (.aload_n 3, 1) := by decide +kernel
theorem d8_58 : decode jdk_52_method_16_code 58 = .ok (.areturn, 1) := by decide +kernel
theorem d8_20 : decode jdk_52_method_16_code 20 = .ok (.aload_n 0, 1) := by decide +kernel
theorem d8_21 : decode jdk_52_method_16_code 21 = .ok (.iload_n 1, 1) := by decide +kernel
theorem d8_22 : decode jdk_52_method_16_code 22 = .ok (.iload_n 2, 1) := by decide +kernel
theorem own_pd15 : parseMethodDescriptor "([CII)[B" = some ⟨[(.array .char), .int, .int], some (.array .byte)⟩ := by decide +kernel
theorem d8_23 : decode jdk_52_method_16_code 23 = .ok (.invokestatic 119, 3) := by decide +kernel
theorem d8_26 : decode jdk_52_method_16_code 26 = .ok (.astore 5, 2) := by decide +kernel
theorem d8_28 : decode jdk_52_method_16_code 28 = .ok (.aload 5, 2) := by decide +kernel
theorem d8_30 : decode jdk_52_method_16_code 30 = .ok (.iload 4, 2) := by decide +kernel
theorem d8_32 : decode jdk_52_method_16_code 32 = .ok (.invokestatic 71, 3) := by decide +kernel
theorem d8_35 : decode jdk_52_method_16_code 35 = .ok (.sipush 255, 3) := by decide +kernel
theorem d8_38 : decode jdk_52_method_16_code 38 = .ok (.if_icmp .gt 16, 3) := by decide +kernel
theorem d8_54 : decode jdk_52_method_16_code 54 = .ok (.aload 5, 2) := by decide +kernel
theorem d8_56 : decode jdk_52_method_16_code 56 = .ok (.areturn, 1) := by decide +kernel
set_option maxRecDepth 65536 in
set_option maxHeartbeats 40000000 in
theorem own_c8 (l : Launch) (Z : State) (a0 : Array Value) (hw : ∀ d ∈ tables_1, d.before a0 Z = true) (cs : Int32) (gv : Value) (G : own_G Z cs gv) (h0 : Heap) (n0 : Nat) (O0 : Old Z n0 h0) (Z0 : n0 ≤ h0.size) (A : Addr) (n : Nat) (hn : n ≤ 4) (f : Nat → Nat) (fb : own_by f) (A0 : ArF Z h0 A .char n (own_chs f)) (n1 : 1 ≤ n) :
    Con l Z (⟨"java/lang/StringUTF16", "compress", "([CII)[B"⟩ : MethodName) jdk_52_method_16_code 6 (some (.array .byte)) [] ({ frames := 3, cells := 2, slots := 12, locals := 42 } : Room) 2 12 #[(.ref A), (.int (0 : Int32)), (.int (Int32.ofNat n))] h0 (fun r h L => ∃ W, r = some (.ref W) ∧ h0.size ≤ W ∧ Keep h0 h [] ∧ (((∀ i, i < n → f i < 256) ∧ ArF Z h W .byte n (own_lat f)) ∨ ((∃ j, j < n ∧ 255 < f j) ∧ ArF Z h W .byte (2 * n) (own_utf f))) ∧ Old Z n0 h ∧ Fr n0 L) := by
  refine Con.of own_pn21 ?_
  intro pg ev s_ m bl mt cd s₁ hx hby hml hown hnm hret hlk hZ X0 e0
  rw [ef_8]
  show Gd _ _ _ _ (s₁.setTop (mkF m 0 #[.val (.ref A), .val (.int (0 : Int32)), .val (.int (Int32.ofNat n)), .unset, .unset, .unset] []))
  have N0 := Fr.nil n0
  have K0 := Keep.refl h0 []
  have ec1 := own_ofN (n := n) (by omega)
  have ec2 := own_ofC (n := n) (by omega)
  have z0 : (0 : Int32).toInt = 0 := rfl
  refine Gd.go (fun _ w_k => XS.iloadN X0.here hx rfl (hb hby d8_0) rfl w_k) ?_
  show Gd _ _ _ _ (s₁.setTop (mkF m 1 #[.val (.ref A), .val (.int (0 : Int32)), .val (.int (Int32.ofNat n)), .unset, .unset, .unset] [(.int (Int32.ofNat n))]))
  obtain ⟨T1, h1, k1, X1, e1, E1, A1, st1⟩ := newP X0 hx hZ (ow hw 20 rfl) e0 (g := (mkF m 1 #[.val (.ref A), .val (.int (0 : Int32)), .val (.int (Int32.ofNat n)), .unset, .unset, .unset] [(.int (Int32.ofNat n))])) rfl (hb hby d8_1) rfl (by rw [Int32.lt_iff_toInt_lt]; omega) (cap := 4) (by omega) (by decide) (by decide) (by decide)
  obtain ⟨b1, g1⟩ : ∃ z, z = h0.size := ⟨_, rfl⟩
  rw [← g1] at A1 st1
  have ne_A_b1 : A ≠ b1 := fun q => Nat.lt_irrefl _ (Nat.lt_of_lt_of_le A0.lt (Nat.le_of_eq (q.trans g1).symm))
  have n0_b1 : n0 ≤ b1 := Nat.le_trans Z0 (Nat.le_of_eq g1.symm)
  have kn_b1 : h0.size ≤ b1 := Nat.le_trans K0.1 (Nat.le_of_eq g1.symm)
  have xF2 := A0.ext E1
  have xO3 := Old.ext O0 E1
  have xZs4 := Nat.le_trans Z0 E1.1
  have xK5 := Keep.ext K0 E1
  have xF6 : ArF Z h1 b1 .byte ((Int32.ofNat n)).toNatClampNeg (fun _ => (.int (0 : Int32))) := own_new (h := h0) A1 (by rw [Int32.lt_iff_toInt_lt]; omega)
  refine Gd.go (fun _ w_k => st1 _ w_k) ?_
  show Gd _ _ _ _ (T1.setTop (mkF m 3 #[.val (.ref A), .val (.int (0 : Int32)), .val (.int (Int32.ofNat n)), .unset, .unset, .unset] [(.ref b1)]))
  have xW0 := xF6
  rw [ec2] at xW0
  refine Gd.go (fun _ w_k => XS.astoreN X1.here hx rfl (hb hby d8_3) rfl rfl (l' := #[.val (.ref A), .val (.int (0 : Int32)), .val (.int (Int32.ofNat n)), .val (.ref b1), .unset, .unset]) rfl (XS.aloadN X1.here hx rfl (hb hby d8_4) rfl rfl (XS.iloadN X1.here hx rfl (hb hby d8_5) rfl (XS.aloadN X1.here hx rfl (hb hby d8_6) rfl rfl (XS.iconst X1.here hx rfl (hb hby d8_7) (XS.iloadN X1.here hx rfl (hb hby d8_8) rfl w_k)))))) ?_
  show Gd _ _ _ _ (T1.setTop (mkF m 9 #[.val (.ref A), .val (.int (0 : Int32)), .val (.int (Int32.ofNat n)), .val (.ref b1), .unset, .unset] [(.int (Int32.ofNat n)), (.int (0 : Int32)), (.ref b1), (.int (0 : Int32)), (.ref A)]))
  obtain ⟨v7, T7, L7, X7, hQ7, st7⟩ := own_callS X1 hx hZ (y := (⟨"java/lang/StringUTF16", "compress", "([CI[BII)I"⟩ : MethodName)) hown (ow hw 46 rfl) (ow hw 47 rfl) (ow hw 44 rfl) (ow hw 48 rfl) (by decide) (W := 0) (own_c9 l Z a0 hw cs gv G h1 n0 xO3 A n hn f fb xF2 b1 n0_b1 ne_A_b1 xW0) rfl rfl e1 (by decide) (by decide) (g := (mkF m 9 #[.val (.ref A), .val (.int (0 : Int32)), .val (.int (Int32.ofNat n)), .val (.ref b1), .unset, .unset] [(.int (Int32.ofNat n)), (.int (0 : Int32)), (.ref b1), (.int (0 : Int32)), (.ref A)])) rfl (by rw [hml]; rfl) (argsL := [(.ref A), (.int (0 : Int32)), (.ref b1), (.int (0 : Int32)), (.int (Int32.ofNat n))]) (rest := []) (lenOf own_pd14 rfl) rfl (Nat.le_of_eq rfl) (hb hby d8_9) rfl (by decide) (by decide)
  obtain ⟨⟨j, F, rfl, hj, AF, hd⟩, K9, O9, N9⟩ := hQ7
  refine Gd.go (fun _ w_k => st7 _ w_k) ?_
  show Gd _ _ _ _ (T7.setTop (mkF m 12 #[.val (.ref A), .val (.int (0 : Int32)), .val (.int (Int32.ofNat n)), .val (.ref b1), .unset, .unset] [(.int (Int32.ofNat j))]))
  have xF8 := xF2.keep K9 (ninS ne_A_b1 nin0)
  have xZs9 := Nat.le_trans xZs4 K9.1
  have xN10 := Fr.app N0 N9
  have xK11 := Keep.trans xK5 K9 (allS (P := fun z => z ∈ ([] : List Addr) ∨ h0.size ≤ z) (Or.inr kn_b1) all0)
  refine Gd.go (fun _ w_k => XS.istore X7.here hx rfl (hb hby d8_12) rfl (l' := #[.val (.ref A), .val (.int (0 : Int32)), .val (.int (Int32.ofNat n)), .val (.ref b1), .val (.int (Int32.ofNat j)), .unset]) rfl (XS.iload X7.here hx rfl (hb hby d8_14) rfl (XS.iloadN X7.here hx rfl (hb hby d8_16) rfl w_k))) ?_
  show Gd _ _ _ _ (T7.setTop (mkF m 17 #[.val (.ref A), .val (.int (0 : Int32)), .val (.int (Int32.ofNat n)), .val (.ref b1), .val (.int (Int32.ofNat j)), .unset] [(.int (Int32.ofNat n)), (.int (Int32.ofNat j))]))
  rcases hd with ⟨hjn, hall, hF⟩ | ⟨hlt, hgt⟩
  · refine Gd.go (fun _ w_k => XS.icmpYes X7.here hx rfl (pc0 := 17) (pc' := 57) rfl (hb hby d8_17) rfl (teq (congrArg Int32.ofNat hjn)).1 (by decide) (by decide) w_k) ?_
    show Gd _ _ _ _ (T7.setTop (mkF m 57 #[.val (.ref A), .val (.int (0 : Int32)), .val (.int (Int32.ofNat n)), .val (.ref b1), .val (.int (Int32.ofNat j)), .unset] []))
    refine Gd.go (fun _ w_k => XS.aloadN X7.here hx rfl (hb hby d8_57) rfl rfl w_k) ?_
    show Gd _ _ _ _ (T7.setTop (mkF m 58 #[.val (.ref A), .val (.int (0 : Int32)), .val (.int (Int32.ofNat n)), .val (.ref b1), .val (.int (Int32.ofNat j)), .unset] [(.ref b1)]))
    refine own_retA X7 hx hret hlk rfl (hb hby d8_58) ?_ (by decide) (by decide)
    exact ⟨b1, rfl, kn_b1, xK11, Or.inl ⟨hall, AF.congr hF⟩, O9, xN10⟩
  · refine Gd.go (fun _ w_k => XS.icmpNo X7.here hx rfl (hb hby d8_17) rfl (feq (fun q => by have e := congrArg Int32.toInt q; rw [own_ofN (by omega), ec1] at e; omega)).1 w_k) ?_
    show Gd _ _ _ _ (T7.setTop (mkF m 20 #[.val (.ref A), .val (.int (0 : Int32)), .val (.int (Int32.ofNat n)), .val (.ref b1), .val (.int (Int32.ofNat j)), .unset] []))
    refine Gd.go (fun _ w_k => XS.aloadN X7.here hx rfl (hb hby d8_20) rfl rfl (XS.iloadN X7.here hx rfl (hb hby d8_21) rfl (XS.iloadN X7.here hx rfl (hb hby d8_22) rfl w_k))) ?_
    show Gd _ _ _ _ (T7.setTop (mkF m 23 #[.val (.ref A), .val (.int (0 : Int32)), .val (.int (Int32.ofNat n)), .val (.ref b1), .val (.int (Int32.ofNat j)), .unset] [(.int (Int32.ofNat n)), (.int (0 : Int32)), (.ref A)]))
    obtain ⟨v12, T12, L12, X12, hQ12, st12⟩ := own_callS X7 hx hZ (y := (⟨"java/lang/StringUTF16", "toBytes", "([CII)[B"⟩ : MethodName)) hown (ow hw 85 rfl) (ow hw 86 rfl) (ow hw 44 rfl) (ow hw 87 rfl) (by decide) (W := 0) (own_c19 l Z a0 hw cs gv G T7.heap n0 O9 xZs9 A n hn f fb xF8) rfl rfl rfl (by decide) (by decide) (g := (mkF m 23 #[.val (.ref A), .val (.int (0 : Int32)), .val (.int (Int32.ofNat n)), .val (.ref b1), .val (.int (Int32.ofNat j)), .unset] [(.int (Int32.ofNat n)), (.int (0 : Int32)), (.ref A)])) rfl (by rw [hml]; rfl) (argsL := [(.ref A), (.int (0 : Int32)), (.int (Int32.ofNat n))]) (rest := []) (lenOf own_pd15 rfl) rfl (Nat.le_of_eq rfl) (hb hby d8_23) rfl (by decide) (by decide)
    obtain ⟨W, rfl, qW, Kt, At, Ot, Nt⟩ := hQ12
    refine Gd.go (fun _ w_k => st12 _ w_k) ?_
    show Gd _ _ _ _ (T12.setTop (mkF m 26 #[.val (.ref A), .val (.int (0 : Int32)), .val (.int (Int32.ofNat n)), .val (.ref b1), .val (.int (Int32.ofNat j)), .unset] [(.ref W)]))
    have kW := Nat.le_trans xK11.1 qW
    have xF13 := xF8.keep Kt nin0
    have xZs14 := Nat.le_trans xZs9 Kt.1
    have xN15 := Fr.app xN10 Nt
    have xK16 := Keep.trans xK11 Kt all0
    refine Gd.go (fun _ w_k => XS.astore X12.here hx rfl (hb hby d8_26) rfl rfl (l' := #[.val (.ref A), .val (.int (0 : Int32)), .val (.int (Int32.ofNat n)), .val (.ref b1), .val (.int (Int32.ofNat j)), .val (.ref W)]) rfl (XS.aload X12.here hx rfl (hb hby d8_28) rfl rfl (XS.iload X12.here hx rfl (hb hby d8_30) rfl w_k))) ?_
    show Gd _ _ _ _ (T12.setTop (mkF m 32 #[.val (.ref A), .val (.int (0 : Int32)), .val (.int (Int32.ofNat n)), .val (.ref b1), .val (.int (Int32.ofNat j)), .val (.ref W)] [(.int (Int32.ofNat j)), (.ref W)]))
    obtain ⟨T17, X17, e17, st17⟩ := own_callSP X12 hx hZ (y := (⟨"java/lang/StringUTF16", "getChar", "([BI)C"⟩ : MethodName)) hown (ow hw 101 rfl) (ow hw 102 rfl) (ow hw 44 rfl) (ow hw 103 rfl) (by decide) (W := 0) (own_c23 l Z a0 hw cs gv G T12.heap n0 Ot W n f (by omega) At j hlt (fb j)) rfl rfl rfl (by decide) (by decide) (g := (mkF m 32 #[.val (.ref A), .val (.int (0 : Int32)), .val (.int (Int32.ofNat n)), .val (.ref b1), .val (.int (Int32.ofNat j)), .val (.ref W)] [(.int (Int32.ofNat j)), (.ref W)])) rfl (by rw [hml]; rfl) (argsL := [(.ref W), (.int (Int32.ofNat j))]) (rest := []) (lenOf own_pd5 rfl) rfl (Nat.le_of_eq rfl) (hb hby d8_32) rfl
    refine Gd.go (fun _ w_k => st17 _ (XS.sipush X17.here hx rfl (hb hby d8_35) (XS.icmpYes X17.here hx rfl (pc0 := 38) (pc' := 54) rfl (hb hby d8_38) rfl (tlt ((own_gtL (fb j) 255 (by decide) rfl).mpr hgt)).2.2.1 (by decide) (by decide) w_k))) ?_
    show Gd _ _ _ _ (T17.setTop (mkF m 54 #[.val (.ref A), .val (.int (0 : Int32)), .val (.int (Int32.ofNat n)), .val (.ref b1), .val (.int (Int32.ofNat j)), .val (.ref W)] []))
    refine Gd.go (fun _ w_k => XS.aload X17.here hx rfl (hb hby d8_54) rfl rfl w_k) ?_
    show Gd _ _ _ _ (T17.setTop (mkF m 56 #[.val (.ref A), .val (.int (0 : Int32)), .val (.int (Int32.ofNat n)), .val (.ref b1), .val (.int (Int32.ofNat j)), .val (.ref W)] [(.ref W)]))
    refine own_retA X17 hx hret hlk rfl (hb hby d8_56) ?_ (by decide) (by decide)
    rw [e17]
    exact ⟨W, rfl, kW, xK16, Or.inr ⟨⟨j, hlt, hgt⟩, At⟩, Ot, xN15⟩
theorem own_pn22 : plainFor (⟨"java/lang/StringUTF16", "coderFromArrayLen", "([BI)B"⟩ : MethodName) = true := by first | exact plainFor_of_name (by first | (simp [plainName, overriddenIn, x]; done) | decide +kernel) | decide +kernel
theorem ef_10 (m : MethodId) (q0 : Addr) (q1 : Int32) : entryFrame m #[(.ref q0), (.int q1)] 2 = mkF m 0 #[.val (.ref q0), .val (.int q1)] [] := by first | (simp [entryFrame, mkF, argsToLocals, Value.category, maxLocals]; done) | rfl
theorem own_cod0 {n : Nat} (hn : n ≤ 4) (n1 : 1 ≤ n) : nar .byte ((((Int32.ofNat n - Int32.ofNat n).toUInt32 >>> ((31 : Int32) &&& 31).toUInt32).toInt32).toInt8.toInt32) = (0 : Int32) := by
  have : ∀ n : Fin 5, 1 ≤ n.val → nar .byte ((((Int32.ofNat n.val - Int32.ofNat n.val).toUInt32 >>> ((31 : Int32) &&& 31).toUInt32).toInt32).toInt8.toInt32) = (0 : Int32) := by decide +kernel
  exact this ⟨n, by omega⟩ n1
theorem d10_0 : decode jdk_52_method_15_code 0 = .ok (.iload_n 1, 1) := by decide +kernel
theorem d10_1 : decode jdk_52_method_15_code 1 = .ok (.aload_n 0, 1) := by decide +kernel
theorem d10_2 : decode jdk_52_method_15_code 2 = .ok (.arraylength, 1) := by decide +kernel
theorem d10_3 : decode jdk_52_method_15_code 3 = .ok (.isub, 1) := by decide +kernel
theorem d10_4 : decode jdk_52_method_15_code 4 = .ok (.bipush 31, 2) := by decide +kernel
theorem d10_6 : decode jdk_52_method_15_code 6 = .ok (.iushr, 1) := by decide +kernel
theorem d10_7 : decode jdk_52_method_15_code 7 = .ok (.i2b, 1) := by decide +kernel
theorem d10_8 : decode jdk_52_method_15_code 8 = .ok (.ireturn, 1) := by decide +kernel
set_option maxRecDepth 65536 in
set_option maxHeartbeats 40000000 in
theorem own_c10_0 (l : Launch) (Z : State) (a0 : Array Value) (hw : ∀ d ∈ tables_1, d.before a0 Z = true) (W : Addr) (n : Nat) (hn : n ≤ 4) (n1 : 1 ≤ n) (F : Nat → Value) (h0 : Heap) (A0 : ArF Z h0 W .byte n F) :
    Con l Z (⟨"java/lang/StringUTF16", "coderFromArrayLen", "([BI)B"⟩ : MethodName) jdk_52_method_15_code 2 (some .byte) [] ({ frames := 0, cells := 0, slots := 0, locals := 0 } : Room) 0 0 #[(.ref W), (.int (Int32.ofNat n))] h0 (fun r h L => r = some (.int (0 : Int32)) ∧ h = h0 ∧ L = []) := by
  refine Con.of own_pn22 ?_
  intro pg ev s_ m bl mt cd s₁ hx hby hml hown hnm hret hlk hZ X0 e0
  rw [ef_10]
  show Gd _ _ _ _ (s₁.setTop (mkF m 0 #[.val (.ref W), .val (.int (Int32.ofNat n))] []))
  refine Gd.go (fun _ w_k => XS.iloadN X0.here hx rfl (hb hby d10_0) rfl (XS.aloadN X0.here hx rfl (hb hby d10_1) rfl rfl (own_len X0 hx hZ e0 A0 (z := (Int32.ofNat n)) rfl (g := (mkF m 2 #[.val (.ref W), .val (.int (Int32.ofNat n))] [(.ref W), (.int (Int32.ofNat n))])) rfl rfl (hb hby d10_2) _ (XS.isub X0.here hx rfl (hb hby d10_3) rfl (XS.bipush X0.here hx rfl (hb hby d10_4) (XS.iushr X0.here hx rfl (hb hby d10_6) rfl (XS.i2b X0.here hx rfl (hb hby d10_7) rfl w_k))))))) ?_
  show Gd _ _ _ _ (s₁.setTop (mkF m 8 #[.val (.ref W), .val (.int (Int32.ofNat n))] [(.int (((((Int32.ofNat n) - (Int32.ofNat n)).toUInt32 >>> ((31 : Int32) &&& 31).toUInt32).toInt32).toInt8.toInt32))]))
  refine own_retN (t := .byte) X0 hx hret hlk (by simp) (hb hby d10_8) ?_ (by decide) (by decide)
  exact ⟨congrArg (fun q => some (Value.int q)) (own_cod0 hn n1), e0, rfl⟩
theorem own_cod1 {n : Nat} (hn : n ≤ 4) (n1 : 1 ≤ n) : nar .byte ((((Int32.ofNat n - Int32.ofNat (2 * n)).toUInt32 >>> ((31 : Int32) &&& 31).toUInt32).toInt32).toInt8.toInt32) = (1 : Int32) := by
  have : ∀ n : Fin 5, 1 ≤ n.val → nar .byte ((((Int32.ofNat n.val - Int32.ofNat (2 * n.val)).toUInt32 >>> ((31 : Int32) &&& 31).toUInt32).toInt32).toInt8.toInt32) = (1 : Int32) := by decide +kernel
  exact this ⟨n, by omega⟩ n1
set_option maxRecDepth 65536 in
set_option maxHeartbeats 40000000 in
theorem own_c10_1 (l : Launch) (Z : State) (a0 : Array Value) (hw : ∀ d ∈ tables_1, d.before a0 Z = true) (W : Addr) (n : Nat) (hn : n ≤ 4) (n1 : 1 ≤ n) (F : Nat → Value) (h0 : Heap) (A0 : ArF Z h0 W .byte (2 * n) F) :
    Con l Z (⟨"java/lang/StringUTF16", "coderFromArrayLen", "([BI)B"⟩ : MethodName) jdk_52_method_15_code 2 (some .byte) [] ({ frames := 0, cells := 0, slots := 0, locals := 0 } : Room) 0 0 #[(.ref W), (.int (Int32.ofNat n))] h0 (fun r h L => r = some (.int (1 : Int32)) ∧ h = h0 ∧ L = []) := by
  refine Con.of own_pn22 ?_
  intro pg ev s_ m bl mt cd s₁ hx hby hml hown hnm hret hlk hZ X0 e0
  rw [ef_10]
  show Gd _ _ _ _ (s₁.setTop (mkF m 0 #[.val (.ref W), .val (.int (Int32.ofNat n))] []))
  refine Gd.go (fun _ w_k => XS.iloadN X0.here hx rfl (hb hby d10_0) rfl (XS.aloadN X0.here hx rfl (hb hby d10_1) rfl rfl (own_len X0 hx hZ e0 A0 (z := (Int32.ofNat (2 * n))) rfl (g := (mkF m 2 #[.val (.ref W), .val (.int (Int32.ofNat n))] [(.ref W), (.int (Int32.ofNat n))])) rfl rfl (hb hby d10_2) _ (XS.isub X0.here hx rfl (hb hby d10_3) rfl (XS.bipush X0.here hx rfl (hb hby d10_4) (XS.iushr X0.here hx rfl (hb hby d10_6) rfl (XS.i2b X0.here hx rfl (hb hby d10_7) rfl w_k))))))) ?_
  show Gd _ _ _ _ (s₁.setTop (mkF m 8 #[.val (.ref W), .val (.int (Int32.ofNat n))] [(.int (((((Int32.ofNat n) - (Int32.ofNat (2 * n))).toUInt32 >>> ((31 : Int32) &&& 31).toUInt32).toInt32).toInt8.toInt32))]))
  refine own_retN (t := .byte) X0 hx hret hlk (by simp) (hb hby d10_8) ?_ (by decide) (by decide)
  exact ⟨congrArg (fun q => some (Value.int q)) (own_cod1 hn n1), e0, rfl⟩
theorem own_pn23 : plainFor (⟨"java/lang/String", "<init>", "([CIILjava/lang/Void;)V"⟩ : MethodName) = true := by first | exact plainFor_of_name (by first | (simp [plainName, overriddenIn, x]; done) | decide +kernel) | decide +kernel
theorem ef_3 (m : MethodId) (q0 : Addr) (q1 : Addr) (q2 : Int32) (q3 : Int32) : entryFrame m #[(.ref q0), (.ref q1), (.int q2), (.int q3), .null] 6 = mkF m 0 #[.val (.ref q0), .val (.ref q1), .val (.int q2), .val (.int q3), .val .null, .unset] [] := by first | (simp [entryFrame, mkF, argsToLocals, Value.category, maxLocals]; done) | rfl
theorem d3_0 : decode jdk_42_method_149_code 0 = .ok (.aload_n 0, 1) := by decide +kernel
theorem d3_1 : decode jdk_42_method_149_code 1 = .ok (.invokespecial 1, 3) := by decide +kernel
theorem d3_4 : decode jdk_42_method_149_code 4 = .ok (.iload_n 3, 1) := by decide +kernel
theorem d3_5 : decode jdk_42_method_149_code 5 = .ok (.ifCond .ne 22, 3) := by decide +kernel
theorem d3_27 : decode jdk_42_method_149_code 27 = .ok (.getstatic 38, 3) := by decide +kernel
theorem d3_30 : decode jdk_42_method_149_code 30 = .ok (.ifCond .eq 28, 3) := by decide +kernel
theorem d3_33 : decode jdk_42_method_149_code 33 = .ok (.aload_n 1, 1) := by decide +kernel
theorem d3_34 : decode jdk_42_method_149_code 34 = .ok (.iload_n 2, 1) := by decide +kernel
theorem d3_35 : decode jdk_42_method_149_code 35 = .ok (.iload_n 3, 1) := by decide +kernel
theorem d3_36 : decode jdk_42_method_149_code 36 = .ok (.invokestatic 177, 3) := by decide +kernel
theorem d3_39 : decode jdk_42_method_149_code 39 = .ok (.astore 5, 2) := by decide +kernel
theorem d3_41 : decode jdk_42_method_149_code 41 = .ok (.aload_n 0, 1) := by decide +kernel
theorem d3_42 : decode jdk_42_method_149_code 42 = .ok (.aload 5, 2) := by decide +kernel
theorem d3_44 : decode jdk_42_method_149_code 44 = .ok (.iload_n 3, 1) := by decide +kernel
theorem own_pd16 : parseMethodDescriptor "([BI)B" = some ⟨[(.array .byte), .int], some .byte⟩ := by decide +kernel
theorem d3_45 : decode jdk_42_method_149_code 45 = .ok (.invokestatic 47, 3) := by decide +kernel
theorem d3_48 : decode jdk_42_method_149_code 48 = .ok (.putfield 15, 3) := by decide +kernel
theorem d3_51 : decode jdk_42_method_149_code 51 = .ok (.aload_n 0, 1) := by decide +kernel
theorem d3_52 : decode jdk_42_method_149_code 52 = .ok (.aload 5, 2) := by decide +kernel
theorem d3_54 : decode jdk_42_method_149_code 54 = .ok (.putfield 9, 3) := by decide +kernel
theorem d3_57 : decode jdk_42_method_149_code 57 = .ok (.return_, 1) := by decide +kernel
set_option maxRecDepth 65536 in
set_option maxHeartbeats 40000000 in
theorem own_c3 (l : Launch) (Z : State) (a0 : Array Value) (hw : ∀ d ∈ tables_1, d.before a0 Z = true) (cs : Int32) (gv : Value) (G : own_G Z cs gv) (h0 : Heap) (n0 : Nat) (O0 : Old Z n0 h0) (Z0 : n0 ≤ h0.size) (t : Addr) (gt : n0 ≤ t) (E0 : Exa Z h0 t "java/lang/String") (F1 : Fld Z h0 t "java/lang/String" "value" "[B" .null) (F2 : Fld Z h0 t "java/lang/String" "coder" "B" (.int (0 : Int32))) (A : Addr) (n : Nat) (hn : n ≤ 4) (f : Nat → Nat) (fb : own_by f) (A0 : ArF Z h0 A .char n (own_chs f)) (n1 : 1 ≤ n) (neA : A ≠ t) :
    Con l Z (⟨"java/lang/String", "<init>", "([CIILjava/lang/Void;)V"⟩ : MethodName) jdk_42_method_149_code 6 none [] ({ frames := 4, cells := 2, slots := 12, locals := 60 } : Room) 2 12 #[(.ref t), (.ref A), (.int (0 : Int32)), (.int (Int32.ofNat n)), .null] h0 (fun r h L => r = none ∧ (∃ W, ((∀ i, i < n → f i < 256) ∧ own_T Z h 0 t W n (own_lat f)) ∨ own_T Z h 1 t W (2 * n) (own_utf f)) ∧ Old Z n0 h ∧ Fr n0 L) := by
  refine Con.of own_pn23 ?_
  intro pg ev s_ m bl mt cd s₁ hx hby hml hown hnm hret hlk hZ X0 e0
  rw [ef_3]
  show Gd _ _ _ _ (s₁.setTop (mkF m 0 #[.val (.ref t), .val (.ref A), .val (.int (0 : Int32)), .val (.int (Int32.ofNat n)), .val .null, .unset] []))
  have N0 := Fr.nil n0
  have ec1 := own_ofN (n := n) (by omega)
  refine Gd.go (fun _ w_k => XS.aloadN X0.here hx rfl (hb hby d3_0) rfl rfl w_k) ?_
  show Gd _ _ _ _ (s₁.setTop (mkF m 1 #[.val (.ref t), .val (.ref A), .val (.int (0 : Int32)), .val (.int (Int32.ofNat n)), .val .null, .unset] [(.ref t)]))
  obtain ⟨T1, X1, e1, st1⟩ := initO X0 hx hZ hown (ow hw 16 rfl) (ow hw 17 rfl) (ow hw 18 rfl) e0 (g := (mkF m 1 #[.val (.ref t), .val (.ref A), .val (.int (0 : Int32)), .val (.int (Int32.ofNat n)), .val .null, .unset] [(.ref t)])) rfl (by rw [hml]; rfl) rfl (hb hby d3_1) (by decide) (W := 0) (Nat.le_of_eq rfl) (by decide)
  refine Gd.go (fun _ w_k => st1 _ (XS.iloadN X1.here hx rfl (hb hby d3_4) rfl (XS.ifYes X1.here hx rfl (pc0 := 5) (pc' := 27) rfl (hb hby d3_5) rfl ((if0 _ _).trans (feq (fun q => by have e := congrArg Int32.toInt q; rw [ec1] at e; have z0 : (0 : Int32).toInt = 0 := rfl; omega)).2) (by decide) (by decide) w_k))) ?_
  show Gd _ _ _ _ (T1.setTop (mkF m 27 #[.val (.ref t), .val (.ref A), .val (.int (0 : Int32)), .val (.int (Int32.ofNat n)), .val .null, .unset] []))
  obtain ⟨T2, X2, e2, st2⟩ := getS2 X1 hx hZ hown (host := "") (Or.inl (ow hw 41 rfl)) Via.refl e1 (G.2.1.ext O0.2) (g := (mkF m 27 #[.val (.ref t), .val (.ref A), .val (.int (0 : Int32)), .val (.int (Int32.ofNat n)), .val .null, .unset] [])) rfl (hb hby d3_27)
  refine Gd.go (fun _ w_k => st2 _ (XS.ifNo X2.here hx rfl (hb hby d3_30) rfl ((if0 _ _).trans (feq G.1).1) w_k)) ?_
  show Gd _ _ _ _ (T2.setTop (mkF m 33 #[.val (.ref t), .val (.ref A), .val (.int (0 : Int32)), .val (.int (Int32.ofNat n)), .val .null, .unset] []))
  refine Gd.go (fun _ w_k => XS.aloadN X2.here hx rfl (hb hby d3_33) rfl rfl (XS.iloadN X2.here hx rfl (hb hby d3_34) rfl (XS.iloadN X2.here hx rfl (hb hby d3_35) rfl w_k))) ?_
  show Gd _ _ _ _ (T2.setTop (mkF m 36 #[.val (.ref t), .val (.ref A), .val (.int (0 : Int32)), .val (.int (Int32.ofNat n)), .val .null, .unset] [(.int (Int32.ofNat n)), (.int (0 : Int32)), (.ref A)]))
  have ltt := E0.lt
  obtain ⟨v3, T3, L3, X3, hQ3, st3⟩ := own_callS X2 hx hZ (y := (⟨"java/lang/StringUTF16", "compress", "([CII)[B"⟩ : MethodName)) hown (ow hw 42 rfl) (ow hw 43 rfl) (ow hw 44 rfl) (ow hw 45 rfl) (by decide) (W := 0) (own_c8 l Z a0 hw cs gv G h0 n0 O0 Z0 A n hn f fb A0 n1) rfl rfl e2 (by decide) (by decide) (g := (mkF m 36 #[.val (.ref t), .val (.ref A), .val (.int (0 : Int32)), .val (.int (Int32.ofNat n)), .val .null, .unset] [(.int (Int32.ofNat n)), (.int (0 : Int32)), (.ref A)])) rfl (by rw [hml]; rfl) (argsL := [(.ref A), (.int (0 : Int32)), (.int (Int32.ofNat n))]) (rest := []) (lenOf own_pd15 rfl) rfl (Nat.le_of_eq rfl) (hb hby d3_36) rfl (by decide) (by decide)
  obtain ⟨W, rfl, qW, K8, hd, O8, N8⟩ := hQ3
  refine Gd.go (fun _ w_k => st3 _ w_k) ?_
  show Gd _ _ _ _ (T3.setTop (mkF m 39 #[.val (.ref t), .val (.ref A), .val (.int (0 : Int32)), .val (.int (Int32.ofNat n)), .val .null, .unset] [(.ref W)]))
  have xF4 := E0.keep K8
  have xF5 := F1.keep K8 nin0
  have xF6 := F2.keep K8 nin0
  have xF7 := A0.keep K8 nin0
  have xZs8 := Nat.le_trans Z0 K8.1
  have xN9 := Fr.app N0 N8
  have neW : t ≠ W := Nat.ne_of_lt (Nat.lt_of_lt_of_le ltt qW)
  refine Gd.go (fun _ w_k => XS.astore X3.here hx rfl (hb hby d3_39) rfl rfl (l' := #[.val (.ref t), .val (.ref A), .val (.int (0 : Int32)), .val (.int (Int32.ofNat n)), .val .null, .val (.ref W)]) rfl (XS.aloadN X3.here hx rfl (hb hby d3_41) rfl rfl (XS.aload X3.here hx rfl (hb hby d3_42) rfl rfl (XS.iloadN X3.here hx rfl (hb hby d3_44) rfl w_k)))) ?_
  show Gd _ _ _ _ (T3.setTop (mkF m 45 #[.val (.ref t), .val (.ref A), .val (.int (0 : Int32)), .val (.int (Int32.ofNat n)), .val .null, .val (.ref W)] [(.int (Int32.ofNat n)), (.ref W), (.ref t)]))
  rcases hd with ⟨hall, AW⟩ | ⟨-, AW⟩
  · obtain ⟨T10, X10, e10, st10⟩ := own_callSP X3 hx hZ (y := (⟨"java/lang/StringUTF16", "coderFromArrayLen", "([BI)B"⟩ : MethodName)) hown (ow hw 49 rfl) (ow hw 50 rfl) (ow hw 44 rfl) (ow hw 51 rfl) (by decide) (W := 1) (own_c10_0 l Z a0 hw W n hn n1 _ T3.heap AW) rfl rfl rfl (by decide) (by decide) (g := (mkF m 45 #[.val (.ref t), .val (.ref A), .val (.int (0 : Int32)), .val (.int (Int32.ofNat n)), .val .null, .val (.ref W)] [(.int (Int32.ofNat n)), (.ref W), (.ref t)])) rfl (by rw [hml]; rfl) (argsL := [(.ref W), (.int (Int32.ofNat n))]) (rest := [(.ref t)]) (lenOf own_pd16 rfl) rfl (Nat.le_of_eq rfl) (hb hby d3_45) rfl
    refine Gd.go (fun _ w_k => st10 _ w_k) ?_
    show Gd _ _ _ _ (T10.setTop (mkF m 48 #[.val (.ref t), .val (.ref A), .val (.int (0 : Int32)), .val (.int (Int32.ofNat n)), .val .null, .val (.ref W)] [(.int (0 : Int32)), (.ref t)]))
    obtain ⟨T11, h11, X11, e11, W11, st11⟩ := putF X10 hx hZ hown (host := "") (Or.inl (ow hw 26 rfl)) Via.refl e10 xF6 xF4 (Or.inr ⟨(ow hw 22 rfl), rfl, hnm⟩) (ow hw 7 rfl) (ty := .byte) (by decide) rfl rfl (g := (mkF m 48 #[.val (.ref t), .val (.ref A), .val (.int (0 : Int32)), .val (.int (Int32.ofNat n)), .val .null, .val (.ref W)] [(.int (0 : Int32)), (.ref t)])) rfl rfl (hb hby d3_48)
    refine Gd.go (fun _ w_k => st11 _ w_k) ?_
    have xF12 := xF4.wr W11
    have xF13 := xF5.other W11 (Or.inr (slot_ne (Or.inr (ow hw 21 rfl)) (Or.inr (ow hw 22 rfl)) (by decide) (t := (.array .byte)) (t' := .byte) (by decide) (by decide)))
    have xF14 := xF6.same W11
    have xF15 := xF7.other W11 neA
    have xF16 := AW.other W11 (Ne.symm neW)
    have xN17 := Fr.snoc X11 xN9 gt
    have xO18 := Old.wr O8 W11 gt
    have xZs19 := Nat.le_trans xZs8 (Keep.of_wr W11).1
    show Gd _ _ _ _ (T11.setTop (mkF m 51 #[.val (.ref t), .val (.ref A), .val (.int (0 : Int32)), .val (.int (Int32.ofNat n)), .val .null, .val (.ref W)] []))
    refine Gd.go (fun _ w_k => XS.aloadN X11.here hx rfl (hb hby d3_51) rfl rfl (XS.aload X11.here hx rfl (hb hby d3_52) rfl rfl w_k)) ?_
    show Gd _ _ _ _ (T11.setTop (mkF m 54 #[.val (.ref t), .val (.ref A), .val (.int (0 : Int32)), .val (.int (Int32.ofNat n)), .val .null, .val (.ref W)] [(.ref W), (.ref t)]))
    obtain ⟨T20, h20, X20, e20, W20, st20⟩ := putF X11 hx hZ hown (host := "") (Or.inl (ow hw 25 rfl)) Via.refl e11 xF13 xF12 (Or.inr ⟨(ow hw 21 rfl), rfl, hnm⟩) (ow hw 7 rfl) (ty := (.array .byte)) (by decide) rfl rfl (g := (mkF m 54 #[.val (.ref t), .val (.ref A), .val (.int (0 : Int32)), .val (.int (Int32.ofNat n)), .val .null, .val (.ref W)] [(.ref W), (.ref t)])) rfl rfl (hb hby d3_54)
    refine Gd.go (fun _ w_k => st20 _ w_k) ?_
    have xF21 := xF12.wr W20
    have xF22 := xF13.same W20
    have xF23 := xF14.other W20 (Or.inr (slot_ne (Or.inr (ow hw 22 rfl)) (Or.inr (ow hw 21 rfl)) (by decide) (t := .byte) (t' := (.array .byte)) (by decide) (by decide)))
    have xF24 := xF15.other W20 neA
    have xF25 := xF16.other W20 (Ne.symm neW)
    have xN26 := Fr.snoc X20 xN17 gt
    have xO27 := Old.wr xO18 W20 gt
    have xZs28 := Nat.le_trans xZs19 (Keep.of_wr W20).1
    show Gd _ _ _ _ (T20.setTop (mkF m 57 #[.val (.ref t), .val (.ref A), .val (.int (0 : Int32)), .val (.int (Int32.ofNat n)), .val .null, .val (.ref W)] []))
    refine own_retV X20 hx hret hlk (hb hby d3_57) ?_ (by decide) (by decide)
    rw [e20]
    exact ⟨rfl, ⟨W, Or.inl ⟨hall, ⟨xF21, xF22, xF23, xF25⟩⟩⟩, xO27, xN26⟩
  · obtain ⟨T29, X29, e29, st29⟩ := own_callSP X3 hx hZ (y := (⟨"java/lang/StringUTF16", "coderFromArrayLen", "([BI)B"⟩ : MethodName)) hown (ow hw 49 rfl) (ow hw 50 rfl) (ow hw 44 rfl) (ow hw 51 rfl) (by decide) (W := 1) (own_c10_1 l Z a0 hw W n hn n1 _ T3.heap AW) rfl rfl rfl (by decide) (by decide) (g := (mkF m 45 #[.val (.ref t), .val (.ref A), .val (.int (0 : Int32)), .val (.int (Int32.ofNat n)), .val .null, .val (.ref W)] [(.int (Int32.ofNat n)), (.ref W), (.ref t)])) rfl (by rw [hml]; rfl) (argsL := [(.ref W), (.int (Int32.ofNat n))]) (rest := [(.ref t)]) (lenOf own_pd16 rfl) rfl (Nat.le_of_eq rfl) (hb hby d3_45) rfl
    refine Gd.go (fun _ w_k => st29 _ w_k) ?_
    show Gd _ _ _ _ (T29.setTop (mkF m 48 #[.val (.ref t), .val (.ref A), .val (.int (0 : Int32)), .val (.int (Int32.ofNat n)), .val .null, .val (.ref W)] [(.int (1 : Int32)), (.ref t)]))
    obtain ⟨T30, h30, X30, e30, W30, st30⟩ := putF X29 hx hZ hown (host := "") (Or.inl (ow hw 26 rfl)) Via.refl e29 xF6 xF4 (Or.inr ⟨(ow hw 22 rfl), rfl, hnm⟩) (ow hw 7 rfl) (ty := .byte) (by decide) rfl rfl (g := (mkF m 48 #[.val (.ref t), .val (.ref A), .val (.int (0 : Int32)), .val (.int (Int32.ofNat n)), .val .null, .val (.ref W)] [(.int (1 : Int32)), (.ref t)])) rfl rfl (hb hby d3_48)
    refine Gd.go (fun _ w_k => st30 _ w_k) ?_
    have xF31 := xF4.wr W30
    have xF32 := xF5.other W30 (Or.inr (slot_ne (Or.inr (ow hw 21 rfl)) (Or.inr (ow hw 22 rfl)) (by decide) (t := (.array .byte)) (t' := .byte) (by decide) (by decide)))
    have xF33 := xF6.same W30
    have xF34 := xF7.other W30 neA
    have xF35 := AW.other W30 (Ne.symm neW)
    have xN36 := Fr.snoc X30 xN9 gt
    have xO37 := Old.wr O8 W30 gt
    have xZs38 := Nat.le_trans xZs8 (Keep.of_wr W30).1
    show Gd _ _ _ _ (T30.setTop (mkF m 51 #[.val (.ref t), .val (.ref A), .val (.int (0 : Int32)), .val (.int (Int32.ofNat n)), .val .null, .val (.ref W)] []))
    refine Gd.go (fun _ w_k => XS.aloadN X30.here hx rfl (hb hby d3_51) rfl rfl (XS.aload X30.here hx rfl (hb hby d3_52) rfl rfl w_k)) ?_
    show Gd _ _ _ _ (T30.setTop (mkF m 54 #[.val (.ref t), .val (.ref A), .val (.int (0 : Int32)), .val (.int (Int32.ofNat n)), .val .null, .val (.ref W)] [(.ref W), (.ref t)]))
    obtain ⟨T39, h39, X39, e39, W39, st39⟩ := putF X30 hx hZ hown (host := "") (Or.inl (ow hw 25 rfl)) Via.refl e30 xF32 xF31 (Or.inr ⟨(ow hw 21 rfl), rfl, hnm⟩) (ow hw 7 rfl) (ty := (.array .byte)) (by decide) rfl rfl (g := (mkF m 54 #[.val (.ref t), .val (.ref A), .val (.int (0 : Int32)), .val (.int (Int32.ofNat n)), .val .null, .val (.ref W)] [(.ref W), (.ref t)])) rfl rfl (hb hby d3_54)
    refine Gd.go (fun _ w_k => st39 _ w_k) ?_
    have xF40 := xF31.wr W39
    have xF41 := xF32.same W39
    have xF42 := xF33.other W39 (Or.inr (slot_ne (Or.inr (ow hw 22 rfl)) (Or.inr (ow hw 21 rfl)) (by decide) (t := .byte) (t' := (.array .byte)) (by decide) (by decide)))
    have xF43 := xF34.other W39 neA
    have xF44 := xF35.other W39 (Ne.symm neW)
    have xN45 := Fr.snoc X39 xN36 gt
    have xO46 := Old.wr xO37 W39 gt
    have xZs47 := Nat.le_trans xZs38 (Keep.of_wr W39).1
    show Gd _ _ _ _ (T39.setTop (mkF m 57 #[.val (.ref t), .val (.ref A), .val (.int (0 : Int32)), .val (.int (Int32.ofNat n)), .val .null, .val (.ref W)] []))
    refine own_retV X39 hx hret hlk (hb hby d3_57) ?_ (by decide) (by decide)
    rw [e39]
    exact ⟨rfl, ⟨W, Or.inr ⟨xF40, xF41, xF42, xF44⟩⟩, xO46, xN45⟩
theorem own_pn24 : plainFor (⟨"java/lang/String", "<init>", "([C)V"⟩ : MethodName) = true := by first | exact plainFor_of_name (by first | (simp [plainName, overriddenIn, x]; done) | decide +kernel) | decide +kernel
theorem ef_2 (m : MethodId) (q0 : Addr) (q1 : Addr) : entryFrame m #[(.ref q0), (.ref q1)] 2 = mkF m 0 #[.val (.ref q0), .val (.ref q1)] [] := by first | (simp [entryFrame, mkF, argsToLocals, Value.category, maxLocals]; done) | rfl
theorem d2_0 : decode jdk_42_method_3_code 0 = .ok (.aload_n 0, 1) := by decide +kernel
theorem d2_1 : decode jdk_42_method_3_code 1 = .ok (.aload_n 1, 1) := by decide +kernel
theorem d2_2 : decode jdk_42_method_3_code 2 = .ok (.iconst 0, 1) := by decide +kernel
theorem d2_3 : decode jdk_42_method_3_code 3 = .ok (.aload_n 1, 1) := by decide +kernel
theorem d2_4 : decode jdk_42_method_3_code 4 = .ok (.arraylength, 1) := by decide +kernel
theorem d2_5 : decode jdk_42_method_3_code 5 = .ok (.aconst_null, 1) := by decide +kernel
theorem own_pd17 : parseMethodDescriptor "([CIILjava/lang/Void;)V" = some ⟨[(.array .char), .int, .int, (.object "java/lang/Void")], none⟩ := by decide +kernel
theorem d2_6 : decode jdk_42_method_3_code 6 = .ok (.invokespecial 27, 3) := by decide +kernel
theorem d2_9 : decode jdk_42_method_3_code 9 = .ok (.return_, 1) := by decide +kernel
set_option maxRecDepth 65536 in
set_option maxHeartbeats 40000000 in
theorem own_c2 (l : Launch) (Z : State) (a0 : Array Value) (hw : ∀ d ∈ tables_1, d.before a0 Z = true) (cs : Int32) (gv : Value) (G : own_G Z cs gv) (h0 : Heap) (n0 : Nat) (O0 : Old Z n0 h0) (Z0 : n0 ≤ h0.size) (t : Addr) (gt : n0 ≤ t) (E0 : Exa Z h0 t "java/lang/String") (F1 : Fld Z h0 t "java/lang/String" "value" "[B" .null) (F2 : Fld Z h0 t "java/lang/String" "coder" "B" (.int (0 : Int32))) (A : Addr) (n : Nat) (hn : n ≤ 4) (f : Nat → Nat) (fb : own_by f) (A0 : ArF Z h0 A .char n (own_chs f)) (n1 : 1 ≤ n) (neA : A ≠ t) :
    Con l Z (⟨"java/lang/String", "<init>", "([C)V"⟩ : MethodName) jdk_42_method_3_code 2 none [] ({ frames := 5, cells := 2, slots := 12, locals := 77 } : Room) 2 12 #[(.ref t), (.ref A)] h0 (fun r h L => r = none ∧ (∃ W, ((∀ i, i < n → f i < 256) ∧ own_T Z h 0 t W n (own_lat f)) ∨ own_T Z h 1 t W (2 * n) (own_utf f)) ∧ Old Z n0 h ∧ Fr n0 L) := by
  refine Con.of own_pn24 ?_
  intro pg ev s_ m bl mt cd s₁ hx hby hml hown hnm hret hlk hZ X0 e0
  rw [ef_2]
  show Gd _ _ _ _ (s₁.setTop (mkF m 0 #[.val (.ref t), .val (.ref A)] []))
  refine Gd.go (fun _ w_k => XS.aloadN X0.here hx rfl (hb hby d2_0) rfl rfl (XS.aloadN X0.here hx rfl (hb hby d2_1) rfl rfl (XS.iconst X0.here hx rfl (hb hby d2_2) (XS.aloadN X0.here hx rfl (hb hby d2_3) rfl rfl (own_len X0 hx hZ e0 A0 (z := (Int32.ofNat n)) rfl (g := (mkF m 4 #[.val (.ref t), .val (.ref A)] [(.ref A), (.int (0 : Int32)), (.ref A), (.ref t)])) rfl rfl (hb hby d2_4) _ (XS.aconstNull X0.here hx rfl (hb hby d2_5) w_k)))))) ?_
  show Gd _ _ _ _ (s₁.setTop (mkF m 6 #[.val (.ref t), .val (.ref A)] [.null, (.int (Int32.ofNat n)), (.int (0 : Int32)), (.ref A), (.ref t)]))
  obtain ⟨v1, T1, L1, X1, hQ1, st1⟩ := own_callI X0 hx hZ (y := (⟨"java/lang/String", "<init>", "([CIILjava/lang/Void;)V"⟩ : MethodName)) rfl hown (ow hw 12 rfl) (ow hw 13 rfl) (ow hw 8 rfl) (ow hw 15 rfl) (by decide) (b := t) (W := 0) (own_c3 l Z a0 hw cs gv G h0 n0 O0 Z0 t gt E0 F1 F2 A n hn f fb A0 n1 neA) rfl rfl e0 (by decide) (by decide) (g := (mkF m 6 #[.val (.ref t), .val (.ref A)] [.null, (.int (Int32.ofNat n)), (.int (0 : Int32)), (.ref A), (.ref t)])) rfl (by rw [hml]; rfl) (argsL := [(.ref A), (.int (0 : Int32)), (.int (Int32.ofNat n)), .null]) (rest := []) (lenOf own_pd17 rfl) rfl (Nat.le_of_eq rfl) (hb hby d2_6) rfl (by decide) (by decide)
  obtain ⟨rfl, H9, O9, N9⟩ := hQ1
  refine Gd.go (fun _ w_k => st1 _ w_k) ?_
  show Gd _ _ _ _ (T1.setTop (mkF m 9 #[.val (.ref t), .val (.ref A)] []))
  refine own_retV X1 hx hret hlk (hb hby d2_9) ?_ (by decide) (by decide)
  exact ⟨rfl, H9, O9, (List.nil_append (α := Loc) _).symm ▸ N9⟩
def own_f (c0 c1 c2 c3 : Nat) : Nat → Nat := fun i => if i = 0 then c0 else if i = 1 then c1 else if i = 2 then c2 else c3
theorem own_fby {c0 c1 c2 c3 : Nat} (h0 : c0 < 65536) (h1 : c1 < 65536) (h2 : c2 < 65536) (h3 : c3 < 65536) : own_by (own_f c0 c1 c2 c3) := fun i => by
  unfold own_f; split
  · exact h0
  · split
    · exact h1
    · split
      · exact h2
      · exact h3
theorem own_pn25 : plainFor x = true := by first | exact plainFor_of_name (by first | (simp [plainName, overriddenIn, x]; done) | decide +kernel) | decide +kernel
theorem ef_0 (m : MethodId) (q0 : Int32) (q1 : Int32) (q2 : Int32) (q3 : Int32) (q4 : Int32) : entryFrame m #[(.int q0), (.int q1), (.int q2), (.int q3), (.int q4)] maxLocals = mkF m 0 #[.val (.int q0), .val (.int q1), .val (.int q2), .val (.int q3), .val (.int q4), .unset, .unset, .unset, .unset, .unset, .unset, .unset, .unset] [] := by first | (simp [entryFrame, mkF, argsToLocals, Value.category, maxLocals]; done) | rfl
theorem own_pd18 : parseMethodDescriptor "([C)V" = some ⟨[(.array .char)], none⟩ := by decide +kernel
theorem own_pd19 : parseMethodDescriptor "(Ljava/lang/String;)Z" = some ⟨[(.object "java/lang/String")], some .boolean⟩ := by decide +kernel
set_option maxRecDepth 65536 in
set_option maxHeartbeats 40000000 in
theorem own_law1 (l : Launch) (Z : State) (a0 : Array Value) (hw : ∀ d ∈ tables_1, d.before a0 Z = true) (ln va vb vc vd : Int32) (cs : Int32) (gv : Value) (G : own_G Z cs gv) (h0 : Heap) (n0 : Nat) (O0 : Old Z n0 h0) (Z0 : n0 ≤ h0.size) (hl : (ln &&& (2147483647 : Int32)) % (5 : Int32) = (1 : Int32)) :
    Con l Z x code maxLocals ret tables_1 room_1 24 1152 #[(.int ln), (.int va), (.int vb), (.int vc), (.int vd)] h0 (fun v h L => v = some (.int 1) ∧ Fr n0 L) := by
  refine Con.of own_pn25 ?_
  intro pg ev s_ m bl mt cd s₁ hx hby hml hown hnm hret hlk hZ X0 e0
  rw [ef_0]
  show Gd _ _ _ _ (s₁.setTop (mkF m 0 #[.val (.int ln), .val (.int va), .val (.int vb), .val (.int vc), .val (.int vd), .unset, .unset, .unset, .unset, .unset, .unset, .unset, .unset] []))
  have N0 := Fr.nil n0
  refine Gd.go (fun _ w_k => XS.iloadN X0.here hx rfl (hb hby at_0) rfl (X0.ldcInt hx hown (mvT hZ (ow hw 0 rfl)) (g := (mkF m 1 #[.val (.int ln), .val (.int va), .val (.int vb), .val (.int vc), .val (.int vd), .unset, .unset, .unset, .unset, .unset, .unset, .unset, .unset] [(.int ln)])) rfl (hb hby at_1) _ (XS.iand X0.here hx rfl (hb hby at_3) rfl (XS.iconst X0.here hx rfl (hb hby at_4) (iremM (g := (mkF m 5 #[.val (.int ln), .val (.int va), .val (.int vb), .val (.int vc), .val (.int vd), .unset, .unset, .unset, .unset, .unset, .unset, .unset, .unset] [(.int (5 : Int32)), (.int (ln &&& (2147483647 : Int32)))])) X0 hx rfl (hb hby at_5) rfl (by decide) w_k))))) ?_
  show Gd _ _ _ _ (s₁.setTop (mkF m 6 #[.val (.int ln), .val (.int va), .val (.int vb), .val (.int vc), .val (.int vd), .unset, .unset, .unset, .unset, .unset, .unset, .unset, .unset] [(.int ((ln &&& (2147483647 : Int32)) % (5 : Int32)))]))
  rw [hl]
  show Gd _ _ _ _ (s₁.setTop (mkF m 6 #[.val (.int ln), .val (.int va), .val (.int vb), .val (.int vc), .val (.int vd), .unset, .unset, .unset, .unset, .unset, .unset, .unset, .unset] [(.int (1 : Int32))]))
  refine Gd.go (fun _ w_k => XS.istore X0.here hx rfl (hb hby at_6) rfl (l' := #[.val (.int ln), .val (.int va), .val (.int vb), .val (.int vc), .val (.int vd), .val (.int (1 : Int32)), .unset, .unset, .unset, .unset, .unset, .unset, .unset]) rfl (XS.iloadN X0.here hx rfl (hb hby at_8) rfl w_k)) ?_
  show Gd _ _ _ _ (s₁.setTop (mkF m 9 #[.val (.int ln), .val (.int va), .val (.int vb), .val (.int vc), .val (.int vd), .val (.int (1 : Int32)), .unset, .unset, .unset, .unset, .unset, .unset, .unset] [(.int va)]))
  obtain ⟨T1, X1, e1, st1⟩ := own_callSP X0 hx hZ (y := (⟨"com/example/yuletally/yuletally/ScreenLinesHoldsControlPinLaw", "draw", "(I)C"⟩ : MethodName)) hown (ow hw 1 rfl) (ow hw 2 rfl) (ow hw 3 rfl) (ow hw 4 rfl) (by decide) (W := 0) (own_c1 l Z a0 hw va h0) rfl rfl e0 (by decide) (by decide) (g := (mkF m 9 #[.val (.int ln), .val (.int va), .val (.int vb), .val (.int vc), .val (.int vd), .val (.int (1 : Int32)), .unset, .unset, .unset, .unset, .unset, .unset, .unset] [(.int va)])) rfl (by rw [hml]; rfl) (argsL := [(.int va)]) (rest := []) (lenOf own_pd9 rfl) rfl (Nat.le_of_eq rfl) (hb hby at_9) rfl
  refine Gd.go (fun _ w_k => st1 _ (XS.istore X1.here hx rfl (hb hby at_12) rfl (l' := #[.val (.int ln), .val (.int va), .val (.int vb), .val (.int vc), .val (.int vd), .val (.int (1 : Int32)), .val (.int (Int32.ofNat (own_dn va))), .unset, .unset, .unset, .unset, .unset, .unset]) rfl (XS.iloadN X1.here hx rfl (hb hby at_14) rfl w_k))) ?_
  show Gd _ _ _ _ (T1.setTop (mkF m 15 #[.val (.int ln), .val (.int va), .val (.int vb), .val (.int vc), .val (.int vd), .val (.int (1 : Int32)), .val (.int (Int32.ofNat (own_dn va))), .unset, .unset, .unset, .unset, .unset, .unset] [(.int vb)]))
  obtain ⟨T2, X2, e2, st2⟩ := own_callSP X1 hx hZ (y := (⟨"com/example/yuletally/yuletally/ScreenLinesHoldsControlPinLaw", "draw", "(I)C"⟩ : MethodName)) hown (ow hw 1 rfl) (ow hw 2 rfl) (ow hw 3 rfl) (ow hw 4 rfl) (by decide) (W := 0) (own_c1 l Z a0 hw vb h0) rfl rfl e1 (by decide) (by decide) (g := (mkF m 15 #[.val (.int ln), .val (.int va), .val (.int vb), .val (.int vc), .val (.int vd), .val (.int (1 : Int32)), .val (.int (Int32.ofNat (own_dn va))), .unset, .unset, .unset, .unset, .unset, .unset] [(.int vb)])) rfl (by rw [hml]; rfl) (argsL := [(.int vb)]) (rest := []) (lenOf own_pd9 rfl) rfl (Nat.le_of_eq rfl) (hb hby at_15) rfl
  refine Gd.go (fun _ w_k => st2 _ (XS.istore X2.here hx rfl (hb hby at_18) rfl (l' := #[.val (.int ln), .val (.int va), .val (.int vb), .val (.int vc), .val (.int vd), .val (.int (1 : Int32)), .val (.int (Int32.ofNat (own_dn va))), .val (.int (Int32.ofNat (own_dn vb))), .unset, .unset, .unset, .unset, .unset]) rfl (XS.iloadN X2.here hx rfl (hb hby at_20) rfl w_k))) ?_
  show Gd _ _ _ _ (T2.setTop (mkF m 21 #[.val (.int ln), .val (.int va), .val (.int vb), .val (.int vc), .val (.int vd), .val (.int (1 : Int32)), .val (.int (Int32.ofNat (own_dn va))), .val (.int (Int32.ofNat (own_dn vb))), .unset, .unset, .unset, .unset, .unset] [(.int vc)]))
  obtain ⟨T3, X3, e3, st3⟩ := own_callSP X2 hx hZ (y := (⟨"com/example/yuletally/yuletally/ScreenLinesHoldsControlPinLaw", "draw", "(I)C"⟩ : MethodName)) hown (ow hw 1 rfl) (ow hw 2 rfl) (ow hw 3 rfl) (ow hw 4 rfl) (by decide) (W := 0) (own_c1 l Z a0 hw vc h0) rfl rfl e2 (by decide) (by decide) (g := (mkF m 21 #[.val (.int ln), .val (.int va), .val (.int vb), .val (.int vc), .val (.int vd), .val (.int (1 : Int32)), .val (.int (Int32.ofNat (own_dn va))), .val (.int (Int32.ofNat (own_dn vb))), .unset, .unset, .unset, .unset, .unset] [(.int vc)])) rfl (by rw [hml]; rfl) (argsL := [(.int vc)]) (rest := []) (lenOf own_pd9 rfl) rfl (Nat.le_of_eq rfl) (hb hby at_21) rfl
  refine Gd.go (fun _ w_k => st3 _ (XS.istore X3.here hx rfl (hb hby at_24) rfl (l' := #[.val (.int ln), .val (.int va), .val (.int vb), .val (.int vc), .val (.int vd), .val (.int (1 : Int32)), .val (.int (Int32.ofNat (own_dn va))), .val (.int (Int32.ofNat (own_dn vb))), .val (.int (Int32.ofNat (own_dn vc))), .unset, .unset, .unset, .unset]) rfl (XS.iload X3.here hx rfl (hb hby at_26) rfl w_k))) ?_
  show Gd _ _ _ _ (T3.setTop (mkF m 28 #[.val (.int ln), .val (.int va), .val (.int vb), .val (.int vc), .val (.int vd), .val (.int (1 : Int32)), .val (.int (Int32.ofNat (own_dn va))), .val (.int (Int32.ofNat (own_dn vb))), .val (.int (Int32.ofNat (own_dn vc))), .unset, .unset, .unset, .unset] [(.int vd)]))
  obtain ⟨T4, X4, e4, st4⟩ := own_callSP X3 hx hZ (y := (⟨"com/example/yuletally/yuletally/ScreenLinesHoldsControlPinLaw", "draw", "(I)C"⟩ : MethodName)) hown (ow hw 1 rfl) (ow hw 2 rfl) (ow hw 3 rfl) (ow hw 4 rfl) (by decide) (W := 0) (own_c1 l Z a0 hw vd h0) rfl rfl e3 (by decide) (by decide) (g := (mkF m 28 #[.val (.int ln), .val (.int va), .val (.int vb), .val (.int vc), .val (.int vd), .val (.int (1 : Int32)), .val (.int (Int32.ofNat (own_dn va))), .val (.int (Int32.ofNat (own_dn vb))), .val (.int (Int32.ofNat (own_dn vc))), .unset, .unset, .unset, .unset] [(.int vd)])) rfl (by rw [hml]; rfl) (argsL := [(.int vd)]) (rest := []) (lenOf own_pd9 rfl) rfl (Nat.le_of_eq rfl) (hb hby at_28) rfl
  refine Gd.go (fun _ w_k => st4 _ (XS.istore X4.here hx rfl (hb hby at_31) rfl (l' := #[.val (.int ln), .val (.int va), .val (.int vb), .val (.int vc), .val (.int vd), .val (.int (1 : Int32)), .val (.int (Int32.ofNat (own_dn va))), .val (.int (Int32.ofNat (own_dn vb))), .val (.int (Int32.ofNat (own_dn vc))), .val (.int (Int32.ofNat (own_dn vd))), .unset, .unset, .unset]) rfl (XS.iload X4.here hx rfl (hb hby at_33) rfl (XS.ifYes X4.here hx rfl (pc0 := 35) (pc' := 46) rfl (hb hby at_35) rfl ((if0 _ _).trans (feq (by decide)).2) (by decide) (by decide) w_k)))) ?_
  show Gd _ _ _ _ (T4.setTop (mkF m 46 #[.val (.int ln), .val (.int va), .val (.int vb), .val (.int vc), .val (.int vd), .val (.int (1 : Int32)), .val (.int (Int32.ofNat (own_dn va))), .val (.int (Int32.ofNat (own_dn vb))), .val (.int (Int32.ofNat (own_dn vc))), .val (.int (Int32.ofNat (own_dn vd))), .unset, .unset, .unset] []))
  refine Gd.go (fun _ w_k => XS.iload X4.here hx rfl (hb hby at_46) rfl (XS.iconst X4.here hx rfl (hb hby at_48) (XS.icmpNo X4.here hx rfl (hb hby at_49) rfl (teq (by decide)).2 w_k))) ?_
  show Gd _ _ _ _ (T4.setTop (mkF m 52 #[.val (.int ln), .val (.int va), .val (.int vb), .val (.int vc), .val (.int vd), .val (.int (1 : Int32)), .val (.int (Int32.ofNat (own_dn va))), .val (.int (Int32.ofNat (own_dn vb))), .val (.int (Int32.ofNat (own_dn vc))), .val (.int (Int32.ofNat (own_dn vd))), .unset, .unset, .unset] []))
  refine Gd.go (fun _ w_k => XS.iconst X4.here hx rfl (hb hby at_52) w_k) ?_
  show Gd _ _ _ _ (T4.setTop (mkF m 53 #[.val (.int ln), .val (.int va), .val (.int vb), .val (.int vc), .val (.int vd), .val (.int (1 : Int32)), .val (.int (Int32.ofNat (own_dn va))), .val (.int (Int32.ofNat (own_dn vb))), .val (.int (Int32.ofNat (own_dn vc))), .val (.int (Int32.ofNat (own_dn vd))), .unset, .unset, .unset] [(.int (1 : Int32))]))
  obtain ⟨T5, h5, k5, X5, e5, E5, A5, st5⟩ := newP X4 hx hZ (ow hw 5 rfl) e4 (g := (mkF m 53 #[.val (.int ln), .val (.int va), .val (.int vb), .val (.int vc), .val (.int vd), .val (.int (1 : Int32)), .val (.int (Int32.ofNat (own_dn va))), .val (.int (Int32.ofNat (own_dn vb))), .val (.int (Int32.ofNat (own_dn vc))), .val (.int (Int32.ofNat (own_dn vd))), .unset, .unset, .unset] [(.int (1 : Int32))])) rfl (hb hby at_53) rfl (by decide) (cap := 1) (by decide) (by decide) (by decide) (by decide)
  obtain ⟨b5, g5⟩ : ∃ z, z = h0.size := ⟨_, rfl⟩
  rw [← g5] at A5 st5
  have n0_b5 : n0 ≤ b5 := Nat.le_trans Z0 (Nat.le_of_eq g5.symm)
  have xO6 := Old.ext O0 E5
  have xZs7 := Nat.le_trans Z0 E5.1
  have xF8 : ArF Z h5 b5 .char 1 (fun _ => (.int (0 : Int32))) := own_new (h := h0) A5 (by decide)
  refine Gd.go (fun _ w_k => st5 _ (XS.dup X5.here hx rfl (hb hby at_55) rfl rfl (XS.iconst X5.here hx rfl (hb hby at_56) (XS.iload X5.here hx rfl (hb hby at_57) rfl w_k)))) ?_
  show Gd _ _ _ _ (T5.setTop (mkF m 59 #[.val (.int ln), .val (.int va), .val (.int vb), .val (.int vc), .val (.int vd), .val (.int (1 : Int32)), .val (.int (Int32.ofNat (own_dn va))), .val (.int (Int32.ofNat (own_dn vb))), .val (.int (Int32.ofNat (own_dn vc))), .val (.int (Int32.ofNat (own_dn vd))), .unset, .unset, .unset] [(.int (Int32.ofNat (own_dn va))), (.int (0 : Int32)), (.ref b5), (.ref b5)]))
  obtain ⟨T9, h9, X9, e9, W9, st9⟩ := own_stC X5 hx hZ e5 xF8 (j := (0 : Int32)) (by decide) (by decide) (g := (mkF m 59 #[.val (.int ln), .val (.int va), .val (.int vb), .val (.int vc), .val (.int vd), .val (.int (1 : Int32)), .val (.int (Int32.ofNat (own_dn va))), .val (.int (Int32.ofNat (own_dn vb))), .val (.int (Int32.ofNat (own_dn vc))), .val (.int (Int32.ofNat (own_dn vd))), .unset, .unset, .unset] [(.int (Int32.ofNat (own_dn va))), (.int (0 : Int32)), (.ref b5), (.ref b5)])) rfl rfl (hb hby at_59)
  refine Gd.go (fun _ w_k => st9 _ w_k) ?_
  have xF10 := xF8.set W9
  have xN11 := Fr.snoc X9 N0 n0_b5
  have xO12 := Old.wr xO6 W9 n0_b5
  have xZs13 := Nat.le_trans xZs7 (Keep.of_wr W9).1
  show Gd _ _ _ _ (T9.setTop (mkF m 60 #[.val (.int ln), .val (.int va), .val (.int vb), .val (.int vc), .val (.int vd), .val (.int (1 : Int32)), .val (.int (Int32.ofNat (own_dn va))), .val (.int (Int32.ofNat (own_dn vb))), .val (.int (Int32.ofNat (own_dn vc))), .val (.int (Int32.ofNat (own_dn vd))), .unset, .unset, .unset] [(.ref b5)]))
  refine Gd.go (fun _ w_k => XS.astore X9.here hx rfl (hb hby at_60) rfl rfl (l' := #[.val (.int ln), .val (.int va), .val (.int vb), .val (.int vc), .val (.int vd), .val (.int (1 : Int32)), .val (.int (Int32.ofNat (own_dn va))), .val (.int (Int32.ofNat (own_dn vb))), .val (.int (Int32.ofNat (own_dn vc))), .val (.int (Int32.ofNat (own_dn vd))), .val (.ref b5), .unset, .unset]) rfl (XS.goto X9.here hx rfl (pc0 := 62) (pc' := 143) rfl (hb hby at_62) (by decide) (by decide) w_k)) ?_
  show Gd _ _ _ _ (T9.setTop (mkF m 143 #[.val (.int ln), .val (.int va), .val (.int vb), .val (.int vc), .val (.int vd), .val (.int (1 : Int32)), .val (.int (Int32.ofNat (own_dn va))), .val (.int (Int32.ofNat (own_dn vb))), .val (.int (Int32.ofNat (own_dn vc))), .val (.int (Int32.ofNat (own_dn vd))), .val (.ref b5), .unset, .unset] []))
  obtain ⟨T14, h14, X14, e14, E14, A14, D14, -, st14⟩ := newO X9 hx hZ hown (ow hw 6 rfl) (ow hw 7 rfl) (ow hw 8 rfl) e9 (g := (mkF m 143 #[.val (.int ln), .val (.int va), .val (.int vb), .val (.int vc), .val (.int vd), .val (.int (1 : Int32)), .val (.int (Int32.ofNat (own_dn va))), .val (.int (Int32.ofNat (own_dn vb))), .val (.int (Int32.ofNat (own_dn vc))), .val (.int (Int32.ofNat (own_dn vd))), .val (.ref b5), .unset, .unset] [])) rfl (hb hby at_143) (by decide) (by decide)
  obtain ⟨b14, g14⟩ : ∃ z, z = h9.size := ⟨_, rfl⟩
  rw [← g14] at A14 D14 st14
  have ne_b5_b14 : b5 ≠ b14 := fun q => Nat.lt_irrefl _ (Nat.lt_of_lt_of_le xF10.lt (Nat.le_of_eq (q.trans g14).symm))
  have n0_b14 : n0 ≤ b14 := Nat.le_trans xZs13 (Nat.le_of_eq g14.symm)
  have xF15 := xF10.ext E14
  have xO16 := Old.ext xO12 E14
  have xZs17 := Nat.le_trans xZs13 E14.1
  have xF18 : Fld Z h14 b14 "java/lang/String" "value" "[B" .null := D14 (Or.inr (ow hw 21 rfl)) (ty := (.array .byte)) (by decide)
  have xF19 : Fld Z h14 b14 "java/lang/String" "coder" "B" (.int (0 : Int32)) := D14 (Or.inr (ow hw 22 rfl)) (ty := .byte) (by decide)
  refine Gd.go (fun _ w_k => st14 _ (XS.dup X14.here hx rfl (hb hby at_146) rfl rfl (XS.aload X14.here hx rfl (hb hby at_147) rfl rfl w_k))) ?_
  show Gd _ _ _ _ (T14.setTop (mkF m 149 #[.val (.int ln), .val (.int va), .val (.int vb), .val (.int vc), .val (.int vd), .val (.int (1 : Int32)), .val (.int (Int32.ofNat (own_dn va))), .val (.int (Int32.ofNat (own_dn vb))), .val (.int (Int32.ofNat (own_dn vc))), .val (.int (Int32.ofNat (own_dn vd))), .val (.ref b5), .unset, .unset] [(.ref b5), (.ref b14), (.ref b14)]))
  have cA : ArF Z h14 b5 .char 1 (own_chs (own_f (own_dn va) (own_dn vb) (own_dn vc) (own_dn vd))) := xF15.congr (fun i hi => (match i, hi with
    | 0, _ => congrArg Value.int (own_i2c (own_dn_lt va).1)
    | (q + 1), h => absurd h (by omega)))
  obtain ⟨v20, T20, L20, X20, hQ20, st20⟩ := own_callI X14 hx hZ (y := (⟨"java/lang/String", "<init>", "([C)V"⟩ : MethodName)) rfl hown (ow hw 9 rfl) (ow hw 10 rfl) (ow hw 8 rfl) (ow hw 11 rfl) (by decide) (b := b14) (W := 1) (own_c2 l Z a0 hw cs gv G h14 n0 xO16 xZs17 b14 n0_b14 A14 xF18 xF19 b5 1 (by decide) (own_f (own_dn va) (own_dn vb) (own_dn vc) (own_dn vd)) (own_fby (own_dn_lt va).1 (own_dn_lt vb).1 (own_dn_lt vc).1 (own_dn_lt vd).1) cA (by decide) ne_b5_b14) rfl rfl e14 (by decide) (by decide) (g := (mkF m 149 #[.val (.int ln), .val (.int va), .val (.int vb), .val (.int vc), .val (.int vd), .val (.int (1 : Int32)), .val (.int (Int32.ofNat (own_dn va))), .val (.int (Int32.ofNat (own_dn vb))), .val (.int (Int32.ofNat (own_dn vc))), .val (.int (Int32.ofNat (own_dn vd))), .val (.ref b5), .unset, .unset] [(.ref b5), (.ref b14), (.ref b14)])) rfl (by rw [hml]; rfl) (argsL := [(.ref b5)]) (rest := [(.ref b14)]) (lenOf own_pd18 rfl) rfl (Nat.le_of_eq rfl) (hb hby at_149) rfl (by decide) (by decide)
  obtain ⟨rfl, ⟨W, hd⟩, O9, N9⟩ := hQ20
  refine Gd.go (fun _ w_k => st20 _ w_k) ?_
  show Gd _ _ _ _ (T20.setTop (mkF m 152 #[.val (.int ln), .val (.int va), .val (.int vb), .val (.int vc), .val (.int vd), .val (.int (1 : Int32)), .val (.int (Int32.ofNat (own_dn va))), .val (.int (Int32.ofNat (own_dn vb))), .val (.int (Int32.ofNat (own_dn vc))), .val (.int (Int32.ofNat (own_dn vd))), .val (.ref b5), .unset, .unset] [(.ref b14)]))
  have xN21 := Fr.app xN11 N9
  refine Gd.go (fun _ w_k => XS.astore X20.here hx rfl (hb hby at_152) rfl rfl (l' := #[.val (.int ln), .val (.int va), .val (.int vb), .val (.int vc), .val (.int vd), .val (.int (1 : Int32)), .val (.int (Int32.ofNat (own_dn va))), .val (.int (Int32.ofNat (own_dn vb))), .val (.int (Int32.ofNat (own_dn vc))), .val (.int (Int32.ofNat (own_dn vd))), .val (.ref b5), .val (.ref b14), .unset]) rfl w_k) ?_
  show Gd _ _ _ _ (T20.setTop (mkF m 154 #[.val (.int ln), .val (.int va), .val (.int vb), .val (.int vc), .val (.int vd), .val (.int (1 : Int32)), .val (.int (Int32.ofNat (own_dn va))), .val (.int (Int32.ofNat (own_dn vb))), .val (.int (Int32.ofNat (own_dn vc))), .val (.int (Int32.ofNat (own_dn vd))), .val (.ref b5), .val (.ref b14), .unset] []))
  refine Gd.viaA (A := fun y : State × List Loc => Stand pg l ev room_1 s_ m #[(.int ln), (.int va), (.int vb), (.int vc), (.int vd)] bl mt cd y.1 y.2 4 17 ∧ y.1.heap = T20.heap ∧ Fr n0 y.2) (S' := fun y => y.1.setTop (mkF m 215 #[.val (.int ln), .val (.int va), .val (.int vb), .val (.int vc), .val (.int vd), .val (.int (1 : Int32)), .val (.int (Int32.ofNat (own_dn va))), .val (.int (Int32.ofNat (own_dn vb))), .val (.int (Int32.ofNat (own_dn vc))), .val (.int (Int32.ofNat (own_dn vd))), .val (.ref b5), .val (.ref b14), .unset] [(.int (bI (own_any 1 (own_f (own_dn va) (own_dn vb) (own_dn vc) (own_dn vd)) = true)))])) (fun J => ?_) (fun y hy => ?_)
  · refine Gd.go (fun _ w_k => XS.iload X20.here hx rfl (hb hby at_154) rfl (XS.iconst X20.here hx rfl (hb hby at_156) (XS.icmpNo X20.here hx rfl (hb hby at_157) rfl (flt (by decide)).1 w_k))) ?_
    show Gd _ _ _ _ (T20.setTop (mkF m 160 #[.val (.int ln), .val (.int va), .val (.int vb), .val (.int vc), .val (.int vd), .val (.int (1 : Int32)), .val (.int (Int32.ofNat (own_dn va))), .val (.int (Int32.ofNat (own_dn vb))), .val (.int (Int32.ofNat (own_dn vc))), .val (.int (Int32.ofNat (own_dn vd))), .val (.ref b5), .val (.ref b14), .unset] []))
    refine Gd.go (fun _ w_k => XS.iload X20.here hx rfl (hb hby at_160) rfl w_k) ?_
    show Gd _ _ _ _ (T20.setTop (mkF m 162 #[.val (.int ln), .val (.int va), .val (.int vb), .val (.int vc), .val (.int vd), .val (.int (1 : Int32)), .val (.int (Int32.ofNat (own_dn va))), .val (.int (Int32.ofNat (own_dn vb))), .val (.int (Int32.ofNat (own_dn vc))), .val (.int (Int32.ofNat (own_dn vd))), .val (.ref b5), .val (.ref b14), .unset] [(.int (Int32.ofNat (own_dn va)))]))
    obtain ⟨T22, X22, e22, st22⟩ := own_callSP X20 hx hZ (y := (⟨"com/example/yuletally/yuletally/ScreenLinesHoldsControlPinLaw", "ctl", "(C)Z"⟩ : MethodName)) hown (ow hw 52 rfl) (ow hw 53 rfl) (ow hw 3 rfl) (ow hw 54 rfl) (by decide) (W := 0) (own_c11 l Z a0 hw (own_dn va) (own_dn_lt va).1 T20.heap) rfl rfl rfl (by decide) (by decide) (g := (mkF m 162 #[.val (.int ln), .val (.int va), .val (.int vb), .val (.int vc), .val (.int vd), .val (.int (1 : Int32)), .val (.int (Int32.ofNat (own_dn va))), .val (.int (Int32.ofNat (own_dn vb))), .val (.int (Int32.ofNat (own_dn vc))), .val (.int (Int32.ofNat (own_dn vd))), .val (.ref b5), .val (.ref b14), .unset] [(.int (Int32.ofNat (own_dn va)))])) rfl (by rw [hml]; rfl) (argsL := [(.int (Int32.ofNat (own_dn va)))]) (rest := []) (lenOf own_pd10 rfl) rfl (Nat.le_of_eq rfl) (hb hby at_162) rfl
    refine Gd.go (fun _ w_k => st22 _ w_k) ?_
    show Gd _ _ _ _ (T22.setTop (mkF m 165 #[.val (.int ln), .val (.int va), .val (.int vb), .val (.int vc), .val (.int vd), .val (.int (1 : Int32)), .val (.int (Int32.ofNat (own_dn va))), .val (.int (Int32.ofNat (own_dn vb))), .val (.int (Int32.ofNat (own_dn vc))), .val (.int (Int32.ofNat (own_dn vd))), .val (.ref b5), .val (.ref b14), .unset] [(.int (bI (own_ctl (own_dn va) = true)))]))
    by_cases hc23 : own_ctl (own_dn va) = true
    · refine Gd.go (fun _ w_k => XS.ifYes X22.here hx rfl (pc0 := 165) (pc' := 210) rfl (hb hby at_165) rfl ((if0 _ _).trans (feq (bI_ne hc23)).2) (by decide) (by decide) w_k) ?_
      show Gd _ _ _ _ (T22.setTop (mkF m 210 #[.val (.int ln), .val (.int va), .val (.int vb), .val (.int vc), .val (.int vd), .val (.int (1 : Int32)), .val (.int (Int32.ofNat (own_dn va))), .val (.int (Int32.ofNat (own_dn vb))), .val (.int (Int32.ofNat (own_dn vc))), .val (.int (Int32.ofNat (own_dn vd))), .val (.ref b5), .val (.ref b14), .unset] []))
      refine Gd.go (fun _ w_k => XS.iconst X22.here hx rfl (hb hby at_210) (XS.goto X22.here hx rfl (pc0 := 211) (pc' := 215) rfl (hb hby at_211) (by decide) (by decide) w_k)) ?_
      show Gd _ _ _ _ (T22.setTop (mkF m 215 #[.val (.int ln), .val (.int va), .val (.int vb), .val (.int vc), .val (.int vd), .val (.int (1 : Int32)), .val (.int (Int32.ofNat (own_dn va))), .val (.int (Int32.ofNat (own_dn vb))), .val (.int (Int32.ofNat (own_dn vc))), .val (.int (Int32.ofNat (own_dn vd))), .val (.ref b5), .val (.ref b14), .unset] [(.int (1 : Int32))]))
      have qe : (bI (own_any 1 (own_f (own_dn va) (own_dn vb) (own_dn vc) (own_dn vd)) = true)) = (1 : Int32) := bI_o (by simp [own_any, own_f, hc23])
      rw [qe] at J
      exact J ⟨T22, _⟩ ⟨X22, e22, xN21⟩
    · refine Gd.go (fun _ w_k => XS.ifNo X22.here hx rfl (hb hby at_165) rfl ((if0 _ _).trans (teq (bI_z hc23)).2) w_k) ?_
      show Gd _ _ _ _ (T22.setTop (mkF m 168 #[.val (.int ln), .val (.int va), .val (.int vb), .val (.int vc), .val (.int vd), .val (.int (1 : Int32)), .val (.int (Int32.ofNat (own_dn va))), .val (.int (Int32.ofNat (own_dn vb))), .val (.int (Int32.ofNat (own_dn vc))), .val (.int (Int32.ofNat (own_dn vd))), .val (.ref b5), .val (.ref b14), .unset] []))
      refine Gd.go (fun _ w_k => XS.iload X22.here hx rfl (hb hby at_168) rfl (XS.iconst X22.here hx rfl (hb hby at_170) (XS.icmpYes X22.here hx rfl (pc0 := 171) (pc' := 182) rfl (hb hby at_171) rfl (tlt (by decide)).1 (by decide) (by decide) w_k))) ?_
      show Gd _ _ _ _ (T22.setTop (mkF m 182 #[.val (.int ln), .val (.int va), .val (.int vb), .val (.int vc), .val (.int vd), .val (.int (1 : Int32)), .val (.int (Int32.ofNat (own_dn va))), .val (.int (Int32.ofNat (own_dn vb))), .val (.int (Int32.ofNat (own_dn vc))), .val (.int (Int32.ofNat (own_dn vd))), .val (.ref b5), .val (.ref b14), .unset] []))
      refine Gd.go (fun _ w_k => XS.iload X22.here hx rfl (hb hby at_182) rfl (XS.iconst X22.here hx rfl (hb hby at_184) (XS.icmpYes X22.here hx rfl (pc0 := 185) (pc' := 196) rfl (hb hby at_185) rfl (tlt (by decide)).1 (by decide) (by decide) w_k))) ?_
      show Gd _ _ _ _ (T22.setTop (mkF m 196 #[.val (.int ln), .val (.int va), .val (.int vb), .val (.int vc), .val (.int vd), .val (.int (1 : Int32)), .val (.int (Int32.ofNat (own_dn va))), .val (.int (Int32.ofNat (own_dn vb))), .val (.int (Int32.ofNat (own_dn vc))), .val (.int (Int32.ofNat (own_dn vd))), .val (.ref b5), .val (.ref b14), .unset] []))
      refine Gd.go (fun _ w_k => XS.iload X22.here hx rfl (hb hby at_196) rfl (XS.iconst X22.here hx rfl (hb hby at_198) (XS.icmpYes X22.here hx rfl (pc0 := 199) (pc' := 214) rfl (hb hby at_199) rfl (tlt (by decide)).1 (by decide) (by decide) w_k))) ?_
      show Gd _ _ _ _ (T22.setTop (mkF m 214 #[.val (.int ln), .val (.int va), .val (.int vb), .val (.int vc), .val (.int vd), .val (.int (1 : Int32)), .val (.int (Int32.ofNat (own_dn va))), .val (.int (Int32.ofNat (own_dn vb))), .val (.int (Int32.ofNat (own_dn vc))), .val (.int (Int32.ofNat (own_dn vd))), .val (.ref b5), .val (.ref b14), .unset] []))
      refine Gd.go (fun _ w_k => XS.iconst X22.here hx rfl (hb hby at_214) w_k) ?_
      show Gd _ _ _ _ (T22.setTop (mkF m 215 #[.val (.int ln), .val (.int va), .val (.int vb), .val (.int vc), .val (.int vd), .val (.int (1 : Int32)), .val (.int (Int32.ofNat (own_dn va))), .val (.int (Int32.ofNat (own_dn vb))), .val (.int (Int32.ofNat (own_dn vc))), .val (.int (Int32.ofNat (own_dn vd))), .val (.ref b5), .val (.ref b14), .unset] [(.int (0 : Int32))]))
      have qe : (bI (own_any 1 (own_f (own_dn va) (own_dn vb) (own_dn vc) (own_dn vd)) = true)) = (0 : Int32) := bI_z (by simp [own_any, own_f, hc23])
      rw [qe] at J
      exact J ⟨T22, _⟩ ⟨X22, e22, xN21⟩
  obtain ⟨T_0, L_0⟩ := y
  obtain ⟨X_0, e_0, N_0⟩ := hy
  dsimp only at X_0 e_0 N_0 ⊢
  show Gd _ _ _ _ (T_0.setTop (mkF m 215 #[.val (.int ln), .val (.int va), .val (.int vb), .val (.int vc), .val (.int vd), .val (.int (1 : Int32)), .val (.int (Int32.ofNat (own_dn va))), .val (.int (Int32.ofNat (own_dn vb))), .val (.int (Int32.ofNat (own_dn vc))), .val (.int (Int32.ofNat (own_dn vd))), .val (.ref b5), .val (.ref b14), .unset] [(.int (bI (own_any 1 (own_f (own_dn va) (own_dn vb) (own_dn vc) (own_dn vd)) = true)))]))
  refine Gd.go (fun _ w_k => XS.istore X_0.here hx rfl (hb hby at_215) rfl (l' := #[.val (.int ln), .val (.int va), .val (.int vb), .val (.int vc), .val (.int vd), .val (.int (1 : Int32)), .val (.int (Int32.ofNat (own_dn va))), .val (.int (Int32.ofNat (own_dn vb))), .val (.int (Int32.ofNat (own_dn vc))), .val (.int (Int32.ofNat (own_dn vd))), .val (.ref b5), .val (.ref b14), .val (.int (bI (own_any 1 (own_f (own_dn va) (own_dn vb) (own_dn vc) (own_dn vd)) = true)))]) rfl (XS.aload X_0.here hx rfl (hb hby at_217) rfl rfl w_k)) ?_
  show Gd _ _ _ _ (T_0.setTop (mkF m 219 #[.val (.int ln), .val (.int va), .val (.int vb), .val (.int vc), .val (.int vd), .val (.int (1 : Int32)), .val (.int (Int32.ofNat (own_dn va))), .val (.int (Int32.ofNat (own_dn vb))), .val (.int (Int32.ofNat (own_dn vc))), .val (.int (Int32.ofNat (own_dn vd))), .val (.ref b5), .val (.ref b14), .val (.int (bI (own_any 1 (own_f (own_dn va) (own_dn vb) (own_dn vc) (own_dn vd)) = true)))] [(.ref b14)]))
  rcases hd with ⟨hall, HT⟩ | HT
  · obtain ⟨T24, X24, e24, st24⟩ := own_callSP X_0 hx hZ (y := (⟨"com/example/yuletally/yuletally/ScreenLines", "holdsControl", "(Ljava/lang/String;)Z"⟩ : MethodName)) hown (ow hw 27 rfl) (ow hw 28 rfl) (ow hw 29 rfl) (ow hw 30 rfl) (by decide) (W := 0) (own_c5_0 l Z a0 hw cs gv G T20.heap n0 O9 b14 W 1 (own_f (own_dn va) (own_dn vb) (own_dn vc) (own_dn vd)) (by decide) HT hall) rfl rfl e_0 (by decide) (by decide) (g := (mkF m 219 #[.val (.int ln), .val (.int va), .val (.int vb), .val (.int vc), .val (.int vd), .val (.int (1 : Int32)), .val (.int (Int32.ofNat (own_dn va))), .val (.int (Int32.ofNat (own_dn vb))), .val (.int (Int32.ofNat (own_dn vc))), .val (.int (Int32.ofNat (own_dn vd))), .val (.ref b5), .val (.ref b14), .val (.int (bI (own_any 1 (own_f (own_dn va) (own_dn vb) (own_dn vc) (own_dn vd)) = true)))] [(.ref b14)])) rfl (by rw [hml]; rfl) (argsL := [(.ref b14)]) (rest := []) (lenOf own_pd19 rfl) rfl (Nat.le_of_eq rfl) (hb hby at_219) rfl
    refine Gd.go (fun _ w_k => st24 _ w_k) ?_
    show Gd _ _ _ _ (T24.setTop (mkF m 222 #[.val (.int ln), .val (.int va), .val (.int vb), .val (.int vc), .val (.int vd), .val (.int (1 : Int32)), .val (.int (Int32.ofNat (own_dn va))), .val (.int (Int32.ofNat (own_dn vb))), .val (.int (Int32.ofNat (own_dn vc))), .val (.int (Int32.ofNat (own_dn vd))), .val (.ref b5), .val (.ref b14), .val (.int (bI (own_any 1 (own_f (own_dn va) (own_dn vb) (own_dn vc) (own_dn vd)) = true)))] [(.int (bI (own_any 1 (own_f (own_dn va) (own_dn vb) (own_dn vc) (own_dn vd)) = true)))]))
    refine Gd.go (fun _ w_k => XS.iload X24.here hx rfl (hb hby at_222) rfl (XS.icmpNo X24.here hx rfl (hb hby at_224) rfl (teq rfl).2 w_k)) ?_
    show Gd _ _ _ _ (T24.setTop (mkF m 227 #[.val (.int ln), .val (.int va), .val (.int vb), .val (.int vc), .val (.int vd), .val (.int (1 : Int32)), .val (.int (Int32.ofNat (own_dn va))), .val (.int (Int32.ofNat (own_dn vb))), .val (.int (Int32.ofNat (own_dn vc))), .val (.int (Int32.ofNat (own_dn vd))), .val (.ref b5), .val (.ref b14), .val (.int (bI (own_any 1 (own_f (own_dn va) (own_dn vb) (own_dn vc) (own_dn vd)) = true)))] []))
    refine Gd.go (fun _ w_k => XS.iconst X24.here hx rfl (hb hby at_227) (XS.goto X24.here hx rfl (pc0 := 228) (pc' := 232) rfl (hb hby at_228) (by decide) (by decide) w_k)) ?_
    show Gd _ _ _ _ (T24.setTop (mkF m 232 #[.val (.int ln), .val (.int va), .val (.int vb), .val (.int vc), .val (.int vd), .val (.int (1 : Int32)), .val (.int (Int32.ofNat (own_dn va))), .val (.int (Int32.ofNat (own_dn vb))), .val (.int (Int32.ofNat (own_dn vc))), .val (.int (Int32.ofNat (own_dn vd))), .val (.ref b5), .val (.ref b14), .val (.int (bI (own_any 1 (own_f (own_dn va) (own_dn vb) (own_dn vc) (own_dn vd)) = true)))] [(.int (1 : Int32))]))
    refine own_retN (t := .boolean) X24 hx hret hlk (by simp) (hb hby at_232) ?_ (by decide) (by decide)
    exact ⟨rfl, N_0⟩
  · obtain ⟨T25, X25, e25, st25⟩ := own_callSP X_0 hx hZ (y := (⟨"com/example/yuletally/yuletally/ScreenLines", "holdsControl", "(Ljava/lang/String;)Z"⟩ : MethodName)) hown (ow hw 27 rfl) (ow hw 28 rfl) (ow hw 29 rfl) (ow hw 30 rfl) (by decide) (W := 0) (own_c5_1 l Z a0 hw cs gv G T20.heap n0 O9 b14 W 1 (own_f (own_dn va) (own_dn vb) (own_dn vc) (own_dn vd)) (by decide) HT (fun i _ => (own_fby (own_dn_lt va).1 (own_dn_lt vb).1 (own_dn_lt vc).1 (own_dn_lt vd).1) i)) rfl rfl e_0 (by decide) (by decide) (g := (mkF m 219 #[.val (.int ln), .val (.int va), .val (.int vb), .val (.int vc), .val (.int vd), .val (.int (1 : Int32)), .val (.int (Int32.ofNat (own_dn va))), .val (.int (Int32.ofNat (own_dn vb))), .val (.int (Int32.ofNat (own_dn vc))), .val (.int (Int32.ofNat (own_dn vd))), .val (.ref b5), .val (.ref b14), .val (.int (bI (own_any 1 (own_f (own_dn va) (own_dn vb) (own_dn vc) (own_dn vd)) = true)))] [(.ref b14)])) rfl (by rw [hml]; rfl) (argsL := [(.ref b14)]) (rest := []) (lenOf own_pd19 rfl) rfl (Nat.le_of_eq rfl) (hb hby at_219) rfl
    refine Gd.go (fun _ w_k => st25 _ w_k) ?_
    show Gd _ _ _ _ (T25.setTop (mkF m 222 #[.val (.int ln), .val (.int va), .val (.int vb), .val (.int vc), .val (.int vd), .val (.int (1 : Int32)), .val (.int (Int32.ofNat (own_dn va))), .val (.int (Int32.ofNat (own_dn vb))), .val (.int (Int32.ofNat (own_dn vc))), .val (.int (Int32.ofNat (own_dn vd))), .val (.ref b5), .val (.ref b14), .val (.int (bI (own_any 1 (own_f (own_dn va) (own_dn vb) (own_dn vc) (own_dn vd)) = true)))] [(.int (bI (own_any 1 (own_f (own_dn va) (own_dn vb) (own_dn vc) (own_dn vd)) = true)))]))
    refine Gd.go (fun _ w_k => XS.iload X25.here hx rfl (hb hby at_222) rfl (XS.icmpNo X25.here hx rfl (hb hby at_224) rfl (teq rfl).2 w_k)) ?_
    show Gd _ _ _ _ (T25.setTop (mkF m 227 #[.val (.int ln), .val (.int va), .val (.int vb), .val (.int vc), .val (.int vd), .val (.int (1 : Int32)), .val (.int (Int32.ofNat (own_dn va))), .val (.int (Int32.ofNat (own_dn vb))), .val (.int (Int32.ofNat (own_dn vc))), .val (.int (Int32.ofNat (own_dn vd))), .val (.ref b5), .val (.ref b14), .val (.int (bI (own_any 1 (own_f (own_dn va) (own_dn vb) (own_dn vc) (own_dn vd)) = true)))] []))
    refine Gd.go (fun _ w_k => XS.iconst X25.here hx rfl (hb hby at_227) (XS.goto X25.here hx rfl (pc0 := 228) (pc' := 232) rfl (hb hby at_228) (by decide) (by decide) w_k)) ?_
    show Gd _ _ _ _ (T25.setTop (mkF m 232 #[.val (.int ln), .val (.int va), .val (.int vb), .val (.int vc), .val (.int vd), .val (.int (1 : Int32)), .val (.int (Int32.ofNat (own_dn va))), .val (.int (Int32.ofNat (own_dn vb))), .val (.int (Int32.ofNat (own_dn vc))), .val (.int (Int32.ofNat (own_dn vd))), .val (.ref b5), .val (.ref b14), .val (.int (bI (own_any 1 (own_f (own_dn va) (own_dn vb) (own_dn vc) (own_dn vd)) = true)))] [(.int (1 : Int32))]))
    refine own_retN (t := .boolean) X25 hx hret hlk (by simp) (hb hby at_232) ?_ (by decide) (by decide)
    exact ⟨rfl, N_0⟩
set_option maxRecDepth 65536 in
set_option maxHeartbeats 40000000 in
theorem own_law2 (l : Launch) (Z : State) (a0 : Array Value) (hw : ∀ d ∈ tables_1, d.before a0 Z = true) (ln va vb vc vd : Int32) (cs : Int32) (gv : Value) (G : own_G Z cs gv) (h0 : Heap) (n0 : Nat) (O0 : Old Z n0 h0) (Z0 : n0 ≤ h0.size) (hl : (ln &&& (2147483647 : Int32)) % (5 : Int32) = (2 : Int32)) :
    Con l Z x code maxLocals ret tables_1 room_1 24 1152 #[(.int ln), (.int va), (.int vb), (.int vc), (.int vd)] h0 (fun v h L => v = some (.int 1) ∧ Fr n0 L) := by
  refine Con.of own_pn25 ?_
  intro pg ev s_ m bl mt cd s₁ hx hby hml hown hnm hret hlk hZ X0 e0
  rw [ef_0]
  show Gd _ _ _ _ (s₁.setTop (mkF m 0 #[.val (.int ln), .val (.int va), .val (.int vb), .val (.int vc), .val (.int vd), .unset, .unset, .unset, .unset, .unset, .unset, .unset, .unset] []))
  have N0 := Fr.nil n0
  refine Gd.go (fun _ w_k => XS.iloadN X0.here hx rfl (hb hby at_0) rfl (X0.ldcInt hx hown (mvT hZ (ow hw 0 rfl)) (g := (mkF m 1 #[.val (.int ln), .val (.int va), .val (.int vb), .val (.int vc), .val (.int vd), .unset, .unset, .unset, .unset, .unset, .unset, .unset, .unset] [(.int ln)])) rfl (hb hby at_1) _ (XS.iand X0.here hx rfl (hb hby at_3) rfl (XS.iconst X0.here hx rfl (hb hby at_4) (iremM (g := (mkF m 5 #[.val (.int ln), .val (.int va), .val (.int vb), .val (.int vc), .val (.int vd), .unset, .unset, .unset, .unset, .unset, .unset, .unset, .unset] [(.int (5 : Int32)), (.int (ln &&& (2147483647 : Int32)))])) X0 hx rfl (hb hby at_5) rfl (by decide) w_k))))) ?_
  show Gd _ _ _ _ (s₁.setTop (mkF m 6 #[.val (.int ln), .val (.int va), .val (.int vb), .val (.int vc), .val (.int vd), .unset, .unset, .unset, .unset, .unset, .unset, .unset, .unset] [(.int ((ln &&& (2147483647 : Int32)) % (5 : Int32)))]))
  rw [hl]
  show Gd _ _ _ _ (s₁.setTop (mkF m 6 #[.val (.int ln), .val (.int va), .val (.int vb), .val (.int vc), .val (.int vd), .unset, .unset, .unset, .unset, .unset, .unset, .unset, .unset] [(.int (2 : Int32))]))
  refine Gd.go (fun _ w_k => XS.istore X0.here hx rfl (hb hby at_6) rfl (l' := #[.val (.int ln), .val (.int va), .val (.int vb), .val (.int vc), .val (.int vd), .val (.int (2 : Int32)), .unset, .unset, .unset, .unset, .unset, .unset, .unset]) rfl (XS.iloadN X0.here hx rfl (hb hby at_8) rfl w_k)) ?_
  show Gd _ _ _ _ (s₁.setTop (mkF m 9 #[.val (.int ln), .val (.int va), .val (.int vb), .val (.int vc), .val (.int vd), .val (.int (2 : Int32)), .unset, .unset, .unset, .unset, .unset, .unset, .unset] [(.int va)]))
  obtain ⟨T1, X1, e1, st1⟩ := own_callSP X0 hx hZ (y := (⟨"com/example/yuletally/yuletally/ScreenLinesHoldsControlPinLaw", "draw", "(I)C"⟩ : MethodName)) hown (ow hw 1 rfl) (ow hw 2 rfl) (ow hw 3 rfl) (ow hw 4 rfl) (by decide) (W := 0) (own_c1 l Z a0 hw va h0) rfl rfl e0 (by decide) (by decide) (g := (mkF m 9 #[.val (.int ln), .val (.int va), .val (.int vb), .val (.int vc), .val (.int vd), .val (.int (2 : Int32)), .unset, .unset, .unset, .unset, .unset, .unset, .unset] [(.int va)])) rfl (by rw [hml]; rfl) (argsL := [(.int va)]) (rest := []) (lenOf own_pd9 rfl) rfl (Nat.le_of_eq rfl) (hb hby at_9) rfl
  refine Gd.go (fun _ w_k => st1 _ (XS.istore X1.here hx rfl (hb hby at_12) rfl (l' := #[.val (.int ln), .val (.int va), .val (.int vb), .val (.int vc), .val (.int vd), .val (.int (2 : Int32)), .val (.int (Int32.ofNat (own_dn va))), .unset, .unset, .unset, .unset, .unset, .unset]) rfl (XS.iloadN X1.here hx rfl (hb hby at_14) rfl w_k))) ?_
  show Gd _ _ _ _ (T1.setTop (mkF m 15 #[.val (.int ln), .val (.int va), .val (.int vb), .val (.int vc), .val (.int vd), .val (.int (2 : Int32)), .val (.int (Int32.ofNat (own_dn va))), .unset, .unset, .unset, .unset, .unset, .unset] [(.int vb)]))
  obtain ⟨T2, X2, e2, st2⟩ := own_callSP X1 hx hZ (y := (⟨"com/example/yuletally/yuletally/ScreenLinesHoldsControlPinLaw", "draw", "(I)C"⟩ : MethodName)) hown (ow hw 1 rfl) (ow hw 2 rfl) (ow hw 3 rfl) (ow hw 4 rfl) (by decide) (W := 0) (own_c1 l Z a0 hw vb h0) rfl rfl e1 (by decide) (by decide) (g := (mkF m 15 #[.val (.int ln), .val (.int va), .val (.int vb), .val (.int vc), .val (.int vd), .val (.int (2 : Int32)), .val (.int (Int32.ofNat (own_dn va))), .unset, .unset, .unset, .unset, .unset, .unset] [(.int vb)])) rfl (by rw [hml]; rfl) (argsL := [(.int vb)]) (rest := []) (lenOf own_pd9 rfl) rfl (Nat.le_of_eq rfl) (hb hby at_15) rfl
  refine Gd.go (fun _ w_k => st2 _ (XS.istore X2.here hx rfl (hb hby at_18) rfl (l' := #[.val (.int ln), .val (.int va), .val (.int vb), .val (.int vc), .val (.int vd), .val (.int (2 : Int32)), .val (.int (Int32.ofNat (own_dn va))), .val (.int (Int32.ofNat (own_dn vb))), .unset, .unset, .unset, .unset, .unset]) rfl (XS.iloadN X2.here hx rfl (hb hby at_20) rfl w_k))) ?_
  show Gd _ _ _ _ (T2.setTop (mkF m 21 #[.val (.int ln), .val (.int va), .val (.int vb), .val (.int vc), .val (.int vd), .val (.int (2 : Int32)), .val (.int (Int32.ofNat (own_dn va))), .val (.int (Int32.ofNat (own_dn vb))), .unset, .unset, .unset, .unset, .unset] [(.int vc)]))
  obtain ⟨T3, X3, e3, st3⟩ := own_callSP X2 hx hZ (y := (⟨"com/example/yuletally/yuletally/ScreenLinesHoldsControlPinLaw", "draw", "(I)C"⟩ : MethodName)) hown (ow hw 1 rfl) (ow hw 2 rfl) (ow hw 3 rfl) (ow hw 4 rfl) (by decide) (W := 0) (own_c1 l Z a0 hw vc h0) rfl rfl e2 (by decide) (by decide) (g := (mkF m 21 #[.val (.int ln), .val (.int va), .val (.int vb), .val (.int vc), .val (.int vd), .val (.int (2 : Int32)), .val (.int (Int32.ofNat (own_dn va))), .val (.int (Int32.ofNat (own_dn vb))), .unset, .unset, .unset, .unset, .unset] [(.int vc)])) rfl (by rw [hml]; rfl) (argsL := [(.int vc)]) (rest := []) (lenOf own_pd9 rfl) rfl (Nat.le_of_eq rfl) (hb hby at_21) rfl
  refine Gd.go (fun _ w_k => st3 _ (XS.istore X3.here hx rfl (hb hby at_24) rfl (l' := #[.val (.int ln), .val (.int va), .val (.int vb), .val (.int vc), .val (.int vd), .val (.int (2 : Int32)), .val (.int (Int32.ofNat (own_dn va))), .val (.int (Int32.ofNat (own_dn vb))), .val (.int (Int32.ofNat (own_dn vc))), .unset, .unset, .unset, .unset]) rfl (XS.iload X3.here hx rfl (hb hby at_26) rfl w_k))) ?_
  show Gd _ _ _ _ (T3.setTop (mkF m 28 #[.val (.int ln), .val (.int va), .val (.int vb), .val (.int vc), .val (.int vd), .val (.int (2 : Int32)), .val (.int (Int32.ofNat (own_dn va))), .val (.int (Int32.ofNat (own_dn vb))), .val (.int (Int32.ofNat (own_dn vc))), .unset, .unset, .unset, .unset] [(.int vd)]))
  obtain ⟨T4, X4, e4, st4⟩ := own_callSP X3 hx hZ (y := (⟨"com/example/yuletally/yuletally/ScreenLinesHoldsControlPinLaw", "draw", "(I)C"⟩ : MethodName)) hown (ow hw 1 rfl) (ow hw 2 rfl) (ow hw 3 rfl) (ow hw 4 rfl) (by decide) (W := 0) (own_c1 l Z a0 hw vd h0) rfl rfl e3 (by decide) (by decide) (g := (mkF m 28 #[.val (.int ln), .val (.int va), .val (.int vb), .val (.int vc), .val (.int vd), .val (.int (2 : Int32)), .val (.int (Int32.ofNat (own_dn va))), .val (.int (Int32.ofNat (own_dn vb))), .val (.int (Int32.ofNat (own_dn vc))), .unset, .unset, .unset, .unset] [(.int vd)])) rfl (by rw [hml]; rfl) (argsL := [(.int vd)]) (rest := []) (lenOf own_pd9 rfl) rfl (Nat.le_of_eq rfl) (hb hby at_28) rfl
  refine Gd.go (fun _ w_k => st4 _ (XS.istore X4.here hx rfl (hb hby at_31) rfl (l' := #[.val (.int ln), .val (.int va), .val (.int vb), .val (.int vc), .val (.int vd), .val (.int (2 : Int32)), .val (.int (Int32.ofNat (own_dn va))), .val (.int (Int32.ofNat (own_dn vb))), .val (.int (Int32.ofNat (own_dn vc))), .val (.int (Int32.ofNat (own_dn vd))), .unset, .unset, .unset]) rfl (XS.iload X4.here hx rfl (hb hby at_33) rfl (XS.ifYes X4.here hx rfl (pc0 := 35) (pc' := 46) rfl (hb hby at_35) rfl ((if0 _ _).trans (feq (by decide)).2) (by decide) (by decide) w_k)))) ?_
  show Gd _ _ _ _ (T4.setTop (mkF m 46 #[.val (.int ln), .val (.int va), .val (.int vb), .val (.int vc), .val (.int vd), .val (.int (2 : Int32)), .val (.int (Int32.ofNat (own_dn va))), .val (.int (Int32.ofNat (own_dn vb))), .val (.int (Int32.ofNat (own_dn vc))), .val (.int (Int32.ofNat (own_dn vd))), .unset, .unset, .unset] []))
  refine Gd.go (fun _ w_k => XS.iload X4.here hx rfl (hb hby at_46) rfl (XS.iconst X4.here hx rfl (hb hby at_48) (XS.icmpYes X4.here hx rfl (pc0 := 49) (pc' := 65) rfl (hb hby at_49) rfl (feq (by decide)).2 (by decide) (by decide) w_k))) ?_
  show Gd _ _ _ _ (T4.setTop (mkF m 65 #[.val (.int ln), .val (.int va), .val (.int vb), .val (.int vc), .val (.int vd), .val (.int (2 : Int32)), .val (.int (Int32.ofNat (own_dn va))), .val (.int (Int32.ofNat (own_dn vb))), .val (.int (Int32.ofNat (own_dn vc))), .val (.int (Int32.ofNat (own_dn vd))), .unset, .unset, .unset] []))
  refine Gd.go (fun _ w_k => XS.iload X4.here hx rfl (hb hby at_65) rfl (XS.iconst X4.here hx rfl (hb hby at_67) (XS.icmpNo X4.here hx rfl (hb hby at_68) rfl (teq (by decide)).2 w_k))) ?_
  show Gd _ _ _ _ (T4.setTop (mkF m 71 #[.val (.int ln), .val (.int va), .val (.int vb), .val (.int vc), .val (.int vd), .val (.int (2 : Int32)), .val (.int (Int32.ofNat (own_dn va))), .val (.int (Int32.ofNat (own_dn vb))), .val (.int (Int32.ofNat (own_dn vc))), .val (.int (Int32.ofNat (own_dn vd))), .unset, .unset, .unset] []))
  refine Gd.go (fun _ w_k => XS.iconst X4.here hx rfl (hb hby at_71) w_k) ?_
  show Gd _ _ _ _ (T4.setTop (mkF m 72 #[.val (.int ln), .val (.int va), .val (.int vb), .val (.int vc), .val (.int vd), .val (.int (2 : Int32)), .val (.int (Int32.ofNat (own_dn va))), .val (.int (Int32.ofNat (own_dn vb))), .val (.int (Int32.ofNat (own_dn vc))), .val (.int (Int32.ofNat (own_dn vd))), .unset, .unset, .unset] [(.int (2 : Int32))]))
  obtain ⟨T5, h5, k5, X5, e5, E5, A5, st5⟩ := newP X4 hx hZ (ow hw 5 rfl) e4 (g := (mkF m 72 #[.val (.int ln), .val (.int va), .val (.int vb), .val (.int vc), .val (.int vd), .val (.int (2 : Int32)), .val (.int (Int32.ofNat (own_dn va))), .val (.int (Int32.ofNat (own_dn vb))), .val (.int (Int32.ofNat (own_dn vc))), .val (.int (Int32.ofNat (own_dn vd))), .unset, .unset, .unset] [(.int (2 : Int32))])) rfl (hb hby at_72) rfl (by decide) (cap := 2) (by decide) (by decide) (by decide) (by decide)
  obtain ⟨b5, g5⟩ : ∃ z, z = h0.size := ⟨_, rfl⟩
  rw [← g5] at A5 st5
  have n0_b5 : n0 ≤ b5 := Nat.le_trans Z0 (Nat.le_of_eq g5.symm)
  have xO6 := Old.ext O0 E5
  have xZs7 := Nat.le_trans Z0 E5.1
  have xF8 : ArF Z h5 b5 .char 2 (fun _ => (.int (0 : Int32))) := own_new (h := h0) A5 (by decide)
  refine Gd.go (fun _ w_k => st5 _ (XS.dup X5.here hx rfl (hb hby at_74) rfl rfl (XS.iconst X5.here hx rfl (hb hby at_75) (XS.iload X5.here hx rfl (hb hby at_76) rfl w_k)))) ?_
  show Gd _ _ _ _ (T5.setTop (mkF m 78 #[.val (.int ln), .val (.int va), .val (.int vb), .val (.int vc), .val (.int vd), .val (.int (2 : Int32)), .val (.int (Int32.ofNat (own_dn va))), .val (.int (Int32.ofNat (own_dn vb))), .val (.int (Int32.ofNat (own_dn vc))), .val (.int (Int32.ofNat (own_dn vd))), .unset, .unset, .unset] [(.int (Int32.ofNat (own_dn va))), (.int (0 : Int32)), (.ref b5), (.ref b5)]))
  obtain ⟨T9, h9, X9, e9, W9, st9⟩ := own_stC X5 hx hZ e5 xF8 (j := (0 : Int32)) (by decide) (by decide) (g := (mkF m 78 #[.val (.int ln), .val (.int va), .val (.int vb), .val (.int vc), .val (.int vd), .val (.int (2 : Int32)), .val (.int (Int32.ofNat (own_dn va))), .val (.int (Int32.ofNat (own_dn vb))), .val (.int (Int32.ofNat (own_dn vc))), .val (.int (Int32.ofNat (own_dn vd))), .unset, .unset, .unset] [(.int (Int32.ofNat (own_dn va))), (.int (0 : Int32)), (.ref b5), (.ref b5)])) rfl rfl (hb hby at_78)
  refine Gd.go (fun _ w_k => st9 _ w_k) ?_
  have xF10 := xF8.set W9
  have xN11 := Fr.snoc X9 N0 n0_b5
  have xO12 := Old.wr xO6 W9 n0_b5
  have xZs13 := Nat.le_trans xZs7 (Keep.of_wr W9).1
  show Gd _ _ _ _ (T9.setTop (mkF m 79 #[.val (.int ln), .val (.int va), .val (.int vb), .val (.int vc), .val (.int vd), .val (.int (2 : Int32)), .val (.int (Int32.ofNat (own_dn va))), .val (.int (Int32.ofNat (own_dn vb))), .val (.int (Int32.ofNat (own_dn vc))), .val (.int (Int32.ofNat (own_dn vd))), .unset, .unset, .unset] [(.ref b5)]))
  refine Gd.go (fun _ w_k => XS.dup X9.here hx rfl (hb hby at_79) rfl rfl (XS.iconst X9.here hx rfl (hb hby at_80) (XS.iload X9.here hx rfl (hb hby at_81) rfl w_k))) ?_
  show Gd _ _ _ _ (T9.setTop (mkF m 83 #[.val (.int ln), .val (.int va), .val (.int vb), .val (.int vc), .val (.int vd), .val (.int (2 : Int32)), .val (.int (Int32.ofNat (own_dn va))), .val (.int (Int32.ofNat (own_dn vb))), .val (.int (Int32.ofNat (own_dn vc))), .val (.int (Int32.ofNat (own_dn vd))), .unset, .unset, .unset] [(.int (Int32.ofNat (own_dn vb))), (.int (1 : Int32)), (.ref b5), (.ref b5)]))
  obtain ⟨T14, h14, X14, e14, W14, st14⟩ := own_stC X9 hx hZ e9 xF10 (j := (1 : Int32)) (by decide) (by decide) (g := (mkF m 83 #[.val (.int ln), .val (.int va), .val (.int vb), .val (.int vc), .val (.int vd), .val (.int (2 : Int32)), .val (.int (Int32.ofNat (own_dn va))), .val (.int (Int32.ofNat (own_dn vb))), .val (.int (Int32.ofNat (own_dn vc))), .val (.int (Int32.ofNat (own_dn vd))), .unset, .unset, .unset] [(.int (Int32.ofNat (own_dn vb))), (.int (1 : Int32)), (.ref b5), (.ref b5)])) rfl rfl (hb hby at_83)
  refine Gd.go (fun _ w_k => st14 _ w_k) ?_
  have xF15 := xF10.set W14
  have xN16 := Fr.snoc X14 xN11 n0_b5
  have xO17 := Old.wr xO12 W14 n0_b5
  have xZs18 := Nat.le_trans xZs13 (Keep.of_wr W14).1
  show Gd _ _ _ _ (T14.setTop (mkF m 84 #[.val (.int ln), .val (.int va), .val (.int vb), .val (.int vc), .val (.int vd), .val (.int (2 : Int32)), .val (.int (Int32.ofNat (own_dn va))), .val (.int (Int32.ofNat (own_dn vb))), .val (.int (Int32.ofNat (own_dn vc))), .val (.int (Int32.ofNat (own_dn vd))), .unset, .unset, .unset] [(.ref b5)]))
  refine Gd.go (fun _ w_k => XS.astore X14.here hx rfl (hb hby at_84) rfl rfl (l' := #[.val (.int ln), .val (.int va), .val (.int vb), .val (.int vc), .val (.int vd), .val (.int (2 : Int32)), .val (.int (Int32.ofNat (own_dn va))), .val (.int (Int32.ofNat (own_dn vb))), .val (.int (Int32.ofNat (own_dn vc))), .val (.int (Int32.ofNat (own_dn vd))), .val (.ref b5), .unset, .unset]) rfl (XS.goto X14.here hx rfl (pc0 := 86) (pc' := 143) rfl (hb hby at_86) (by decide) (by decide) w_k)) ?_
  show Gd _ _ _ _ (T14.setTop (mkF m 143 #[.val (.int ln), .val (.int va), .val (.int vb), .val (.int vc), .val (.int vd), .val (.int (2 : Int32)), .val (.int (Int32.ofNat (own_dn va))), .val (.int (Int32.ofNat (own_dn vb))), .val (.int (Int32.ofNat (own_dn vc))), .val (.int (Int32.ofNat (own_dn vd))), .val (.ref b5), .unset, .unset] []))
  obtain ⟨T19, h19, X19, e19, E19, A19, D19, -, st19⟩ := newO X14 hx hZ hown (ow hw 6 rfl) (ow hw 7 rfl) (ow hw 8 rfl) e14 (g := (mkF m 143 #[.val (.int ln), .val (.int va), .val (.int vb), .val (.int vc), .val (.int vd), .val (.int (2 : Int32)), .val (.int (Int32.ofNat (own_dn va))), .val (.int (Int32.ofNat (own_dn vb))), .val (.int (Int32.ofNat (own_dn vc))), .val (.int (Int32.ofNat (own_dn vd))), .val (.ref b5), .unset, .unset] [])) rfl (hb hby at_143) (by decide) (by decide)
  obtain ⟨b19, g19⟩ : ∃ z, z = h14.size := ⟨_, rfl⟩
  rw [← g19] at A19 D19 st19
  have ne_b5_b19 : b5 ≠ b19 := fun q => Nat.lt_irrefl _ (Nat.lt_of_lt_of_le xF15.lt (Nat.le_of_eq (q.trans g19).symm))
  have n0_b19 : n0 ≤ b19 := Nat.le_trans xZs18 (Nat.le_of_eq g19.symm)
  have xF20 := xF15.ext E19
  have xO21 := Old.ext xO17 E19
  have xZs22 := Nat.le_trans xZs18 E19.1
  have xF23 : Fld Z h19 b19 "java/lang/String" "value" "[B" .null := D19 (Or.inr (ow hw 21 rfl)) (ty := (.array .byte)) (by decide)
  have xF24 : Fld Z h19 b19 "java/lang/String" "coder" "B" (.int (0 : Int32)) := D19 (Or.inr (ow hw 22 rfl)) (ty := .byte) (by decide)
  refine Gd.go (fun _ w_k => st19 _ (XS.dup X19.here hx rfl (hb hby at_146) rfl rfl (XS.aload X19.here hx rfl (hb hby at_147) rfl rfl w_k))) ?_
  show Gd _ _ _ _ (T19.setTop (mkF m 149 #[.val (.int ln), .val (.int va), .val (.int vb), .val (.int vc), .val (.int vd), .val (.int (2 : Int32)), .val (.int (Int32.ofNat (own_dn va))), .val (.int (Int32.ofNat (own_dn vb))), .val (.int (Int32.ofNat (own_dn vc))), .val (.int (Int32.ofNat (own_dn vd))), .val (.ref b5), .unset, .unset] [(.ref b5), (.ref b19), (.ref b19)]))
  have cA : ArF Z h19 b5 .char 2 (own_chs (own_f (own_dn va) (own_dn vb) (own_dn vc) (own_dn vd))) := xF20.congr (fun i hi => (match i, hi with
    | 0, _ => congrArg Value.int (own_i2c (own_dn_lt va).1)
    | 1, _ => congrArg Value.int (own_i2c (own_dn_lt vb).1)
    | (q + 2), h => absurd h (by omega)))
  obtain ⟨v25, T25, L25, X25, hQ25, st25⟩ := own_callI X19 hx hZ (y := (⟨"java/lang/String", "<init>", "([C)V"⟩ : MethodName)) rfl hown (ow hw 9 rfl) (ow hw 10 rfl) (ow hw 8 rfl) (ow hw 11 rfl) (by decide) (b := b19) (W := 1) (own_c2 l Z a0 hw cs gv G h19 n0 xO21 xZs22 b19 n0_b19 A19 xF23 xF24 b5 2 (by decide) (own_f (own_dn va) (own_dn vb) (own_dn vc) (own_dn vd)) (own_fby (own_dn_lt va).1 (own_dn_lt vb).1 (own_dn_lt vc).1 (own_dn_lt vd).1) cA (by decide) ne_b5_b19) rfl rfl e19 (by decide) (by decide) (g := (mkF m 149 #[.val (.int ln), .val (.int va), .val (.int vb), .val (.int vc), .val (.int vd), .val (.int (2 : Int32)), .val (.int (Int32.ofNat (own_dn va))), .val (.int (Int32.ofNat (own_dn vb))), .val (.int (Int32.ofNat (own_dn vc))), .val (.int (Int32.ofNat (own_dn vd))), .val (.ref b5), .unset, .unset] [(.ref b5), (.ref b19), (.ref b19)])) rfl (by rw [hml]; rfl) (argsL := [(.ref b5)]) (rest := [(.ref b19)]) (lenOf own_pd18 rfl) rfl (Nat.le_of_eq rfl) (hb hby at_149) rfl (by decide) (by decide)
  obtain ⟨rfl, ⟨W, hd⟩, O9, N9⟩ := hQ25
  refine Gd.go (fun _ w_k => st25 _ w_k) ?_
  show Gd _ _ _ _ (T25.setTop (mkF m 152 #[.val (.int ln), .val (.int va), .val (.int vb), .val (.int vc), .val (.int vd), .val (.int (2 : Int32)), .val (.int (Int32.ofNat (own_dn va))), .val (.int (Int32.ofNat (own_dn vb))), .val (.int (Int32.ofNat (own_dn vc))), .val (.int (Int32.ofNat (own_dn vd))), .val (.ref b5), .unset, .unset] [(.ref b19)]))
  have xN26 := Fr.app xN16 N9
  refine Gd.go (fun _ w_k => XS.astore X25.here hx rfl (hb hby at_152) rfl rfl (l' := #[.val (.int ln), .val (.int va), .val (.int vb), .val (.int vc), .val (.int vd), .val (.int (2 : Int32)), .val (.int (Int32.ofNat (own_dn va))), .val (.int (Int32.ofNat (own_dn vb))), .val (.int (Int32.ofNat (own_dn vc))), .val (.int (Int32.ofNat (own_dn vd))), .val (.ref b5), .val (.ref b19), .unset]) rfl w_k) ?_
  show Gd _ _ _ _ (T25.setTop (mkF m 154 #[.val (.int ln), .val (.int va), .val (.int vb), .val (.int vc), .val (.int vd), .val (.int (2 : Int32)), .val (.int (Int32.ofNat (own_dn va))), .val (.int (Int32.ofNat (own_dn vb))), .val (.int (Int32.ofNat (own_dn vc))), .val (.int (Int32.ofNat (own_dn vd))), .val (.ref b5), .val (.ref b19), .unset] []))
  refine Gd.viaA (A := fun y : State × List Loc => Stand pg l ev room_1 s_ m #[(.int ln), (.int va), (.int vb), (.int vc), (.int vd)] bl mt cd y.1 y.2 4 18 ∧ y.1.heap = T25.heap ∧ Fr n0 y.2) (S' := fun y => y.1.setTop (mkF m 215 #[.val (.int ln), .val (.int va), .val (.int vb), .val (.int vc), .val (.int vd), .val (.int (2 : Int32)), .val (.int (Int32.ofNat (own_dn va))), .val (.int (Int32.ofNat (own_dn vb))), .val (.int (Int32.ofNat (own_dn vc))), .val (.int (Int32.ofNat (own_dn vd))), .val (.ref b5), .val (.ref b19), .unset] [(.int (bI (own_any 2 (own_f (own_dn va) (own_dn vb) (own_dn vc) (own_dn vd)) = true)))])) (fun J => ?_) (fun y hy => ?_)
  · refine Gd.go (fun _ w_k => XS.iload X25.here hx rfl (hb hby at_154) rfl (XS.iconst X25.here hx rfl (hb hby at_156) (XS.icmpNo X25.here hx rfl (hb hby at_157) rfl (flt (by decide)).1 w_k))) ?_
    show Gd _ _ _ _ (T25.setTop (mkF m 160 #[.val (.int ln), .val (.int va), .val (.int vb), .val (.int vc), .val (.int vd), .val (.int (2 : Int32)), .val (.int (Int32.ofNat (own_dn va))), .val (.int (Int32.ofNat (own_dn vb))), .val (.int (Int32.ofNat (own_dn vc))), .val (.int (Int32.ofNat (own_dn vd))), .val (.ref b5), .val (.ref b19), .unset] []))
    refine Gd.go (fun _ w_k => XS.iload X25.here hx rfl (hb hby at_160) rfl w_k) ?_
    show Gd _ _ _ _ (T25.setTop (mkF m 162 #[.val (.int ln), .val (.int va), .val (.int vb), .val (.int vc), .val (.int vd), .val (.int (2 : Int32)), .val (.int (Int32.ofNat (own_dn va))), .val (.int (Int32.ofNat (own_dn vb))), .val (.int (Int32.ofNat (own_dn vc))), .val (.int (Int32.ofNat (own_dn vd))), .val (.ref b5), .val (.ref b19), .unset] [(.int (Int32.ofNat (own_dn va)))]))
    obtain ⟨T27, X27, e27, st27⟩ := own_callSP X25 hx hZ (y := (⟨"com/example/yuletally/yuletally/ScreenLinesHoldsControlPinLaw", "ctl", "(C)Z"⟩ : MethodName)) hown (ow hw 52 rfl) (ow hw 53 rfl) (ow hw 3 rfl) (ow hw 54 rfl) (by decide) (W := 0) (own_c11 l Z a0 hw (own_dn va) (own_dn_lt va).1 T25.heap) rfl rfl rfl (by decide) (by decide) (g := (mkF m 162 #[.val (.int ln), .val (.int va), .val (.int vb), .val (.int vc), .val (.int vd), .val (.int (2 : Int32)), .val (.int (Int32.ofNat (own_dn va))), .val (.int (Int32.ofNat (own_dn vb))), .val (.int (Int32.ofNat (own_dn vc))), .val (.int (Int32.ofNat (own_dn vd))), .val (.ref b5), .val (.ref b19), .unset] [(.int (Int32.ofNat (own_dn va)))])) rfl (by rw [hml]; rfl) (argsL := [(.int (Int32.ofNat (own_dn va)))]) (rest := []) (lenOf own_pd10 rfl) rfl (Nat.le_of_eq rfl) (hb hby at_162) rfl
    refine Gd.go (fun _ w_k => st27 _ w_k) ?_
    show Gd _ _ _ _ (T27.setTop (mkF m 165 #[.val (.int ln), .val (.int va), .val (.int vb), .val (.int vc), .val (.int vd), .val (.int (2 : Int32)), .val (.int (Int32.ofNat (own_dn va))), .val (.int (Int32.ofNat (own_dn vb))), .val (.int (Int32.ofNat (own_dn vc))), .val (.int (Int32.ofNat (own_dn vd))), .val (.ref b5), .val (.ref b19), .unset] [(.int (bI (own_ctl (own_dn va) = true)))]))
    by_cases hc28 : own_ctl (own_dn va) = true
    · refine Gd.go (fun _ w_k => XS.ifYes X27.here hx rfl (pc0 := 165) (pc' := 210) rfl (hb hby at_165) rfl ((if0 _ _).trans (feq (bI_ne hc28)).2) (by decide) (by decide) w_k) ?_
      show Gd _ _ _ _ (T27.setTop (mkF m 210 #[.val (.int ln), .val (.int va), .val (.int vb), .val (.int vc), .val (.int vd), .val (.int (2 : Int32)), .val (.int (Int32.ofNat (own_dn va))), .val (.int (Int32.ofNat (own_dn vb))), .val (.int (Int32.ofNat (own_dn vc))), .val (.int (Int32.ofNat (own_dn vd))), .val (.ref b5), .val (.ref b19), .unset] []))
      refine Gd.go (fun _ w_k => XS.iconst X27.here hx rfl (hb hby at_210) (XS.goto X27.here hx rfl (pc0 := 211) (pc' := 215) rfl (hb hby at_211) (by decide) (by decide) w_k)) ?_
      show Gd _ _ _ _ (T27.setTop (mkF m 215 #[.val (.int ln), .val (.int va), .val (.int vb), .val (.int vc), .val (.int vd), .val (.int (2 : Int32)), .val (.int (Int32.ofNat (own_dn va))), .val (.int (Int32.ofNat (own_dn vb))), .val (.int (Int32.ofNat (own_dn vc))), .val (.int (Int32.ofNat (own_dn vd))), .val (.ref b5), .val (.ref b19), .unset] [(.int (1 : Int32))]))
      have qe : (bI (own_any 2 (own_f (own_dn va) (own_dn vb) (own_dn vc) (own_dn vd)) = true)) = (1 : Int32) := bI_o (by simp [own_any, own_f, hc28])
      rw [qe] at J
      exact J ⟨T27, _⟩ ⟨X27, e27, xN26⟩
    · refine Gd.go (fun _ w_k => XS.ifNo X27.here hx rfl (hb hby at_165) rfl ((if0 _ _).trans (teq (bI_z hc28)).2) w_k) ?_
      show Gd _ _ _ _ (T27.setTop (mkF m 168 #[.val (.int ln), .val (.int va), .val (.int vb), .val (.int vc), .val (.int vd), .val (.int (2 : Int32)), .val (.int (Int32.ofNat (own_dn va))), .val (.int (Int32.ofNat (own_dn vb))), .val (.int (Int32.ofNat (own_dn vc))), .val (.int (Int32.ofNat (own_dn vd))), .val (.ref b5), .val (.ref b19), .unset] []))
      refine Gd.go (fun _ w_k => XS.iload X27.here hx rfl (hb hby at_168) rfl (XS.iconst X27.here hx rfl (hb hby at_170) (XS.icmpNo X27.here hx rfl (hb hby at_171) rfl (flt (by decide)).1 w_k))) ?_
      show Gd _ _ _ _ (T27.setTop (mkF m 174 #[.val (.int ln), .val (.int va), .val (.int vb), .val (.int vc), .val (.int vd), .val (.int (2 : Int32)), .val (.int (Int32.ofNat (own_dn va))), .val (.int (Int32.ofNat (own_dn vb))), .val (.int (Int32.ofNat (own_dn vc))), .val (.int (Int32.ofNat (own_dn vd))), .val (.ref b5), .val (.ref b19), .unset] []))
      refine Gd.go (fun _ w_k => XS.iload X27.here hx rfl (hb hby at_174) rfl w_k) ?_
      show Gd _ _ _ _ (T27.setTop (mkF m 176 #[.val (.int ln), .val (.int va), .val (.int vb), .val (.int vc), .val (.int vd), .val (.int (2 : Int32)), .val (.int (Int32.ofNat (own_dn va))), .val (.int (Int32.ofNat (own_dn vb))), .val (.int (Int32.ofNat (own_dn vc))), .val (.int (Int32.ofNat (own_dn vd))), .val (.ref b5), .val (.ref b19), .unset] [(.int (Int32.ofNat (own_dn vb)))]))
      obtain ⟨T29, X29, e29, st29⟩ := own_callSP X27 hx hZ (y := (⟨"com/example/yuletally/yuletally/ScreenLinesHoldsControlPinLaw", "ctl", "(C)Z"⟩ : MethodName)) hown (ow hw 52 rfl) (ow hw 53 rfl) (ow hw 3 rfl) (ow hw 54 rfl) (by decide) (W := 0) (own_c11 l Z a0 hw (own_dn vb) (own_dn_lt vb).1 T25.heap) rfl rfl e27 (by decide) (by decide) (g := (mkF m 176 #[.val (.int ln), .val (.int va), .val (.int vb), .val (.int vc), .val (.int vd), .val (.int (2 : Int32)), .val (.int (Int32.ofNat (own_dn va))), .val (.int (Int32.ofNat (own_dn vb))), .val (.int (Int32.ofNat (own_dn vc))), .val (.int (Int32.ofNat (own_dn vd))), .val (.ref b5), .val (.ref b19), .unset] [(.int (Int32.ofNat (own_dn vb)))])) rfl (by rw [hml]; rfl) (argsL := [(.int (Int32.ofNat (own_dn vb)))]) (rest := []) (lenOf own_pd10 rfl) rfl (Nat.le_of_eq rfl) (hb hby at_176) rfl
      refine Gd.go (fun _ w_k => st29 _ w_k) ?_
      show Gd _ _ _ _ (T29.setTop (mkF m 179 #[.val (.int ln), .val (.int va), .val (.int vb), .val (.int vc), .val (.int vd), .val (.int (2 : Int32)), .val (.int (Int32.ofNat (own_dn va))), .val (.int (Int32.ofNat (own_dn vb))), .val (.int (Int32.ofNat (own_dn vc))), .val (.int (Int32.ofNat (own_dn vd))), .val (.ref b5), .val (.ref b19), .unset] [(.int (bI (own_ctl (own_dn vb) = true)))]))
      by_cases hc30 : own_ctl (own_dn vb) = true
      · refine Gd.go (fun _ w_k => XS.ifYes X29.here hx rfl (pc0 := 179) (pc' := 210) rfl (hb hby at_179) rfl ((if0 _ _).trans (feq (bI_ne hc30)).2) (by decide) (by decide) w_k) ?_
        show Gd _ _ _ _ (T29.setTop (mkF m 210 #[.val (.int ln), .val (.int va), .val (.int vb), .val (.int vc), .val (.int vd), .val (.int (2 : Int32)), .val (.int (Int32.ofNat (own_dn va))), .val (.int (Int32.ofNat (own_dn vb))), .val (.int (Int32.ofNat (own_dn vc))), .val (.int (Int32.ofNat (own_dn vd))), .val (.ref b5), .val (.ref b19), .unset] []))
        refine Gd.go (fun _ w_k => XS.iconst X29.here hx rfl (hb hby at_210) (XS.goto X29.here hx rfl (pc0 := 211) (pc' := 215) rfl (hb hby at_211) (by decide) (by decide) w_k)) ?_
        show Gd _ _ _ _ (T29.setTop (mkF m 215 #[.val (.int ln), .val (.int va), .val (.int vb), .val (.int vc), .val (.int vd), .val (.int (2 : Int32)), .val (.int (Int32.ofNat (own_dn va))), .val (.int (Int32.ofNat (own_dn vb))), .val (.int (Int32.ofNat (own_dn vc))), .val (.int (Int32.ofNat (own_dn vd))), .val (.ref b5), .val (.ref b19), .unset] [(.int (1 : Int32))]))
        have qe : (bI (own_any 2 (own_f (own_dn va) (own_dn vb) (own_dn vc) (own_dn vd)) = true)) = (1 : Int32) := bI_o (by simp [own_any, own_f, hc28, hc30])
        rw [qe] at J
        exact J ⟨T29, _⟩ ⟨X29, e29, xN26⟩
      · refine Gd.go (fun _ w_k => XS.ifNo X29.here hx rfl (hb hby at_179) rfl ((if0 _ _).trans (teq (bI_z hc30)).2) w_k) ?_
        show Gd _ _ _ _ (T29.setTop (mkF m 182 #[.val (.int ln), .val (.int va), .val (.int vb), .val (.int vc), .val (.int vd), .val (.int (2 : Int32)), .val (.int (Int32.ofNat (own_dn va))), .val (.int (Int32.ofNat (own_dn vb))), .val (.int (Int32.ofNat (own_dn vc))), .val (.int (Int32.ofNat (own_dn vd))), .val (.ref b5), .val (.ref b19), .unset] []))
        refine Gd.go (fun _ w_k => XS.iload X29.here hx rfl (hb hby at_182) rfl (XS.iconst X29.here hx rfl (hb hby at_184) (XS.icmpYes X29.here hx rfl (pc0 := 185) (pc' := 196) rfl (hb hby at_185) rfl (tlt (by decide)).1 (by decide) (by decide) w_k))) ?_
        show Gd _ _ _ _ (T29.setTop (mkF m 196 #[.val (.int ln), .val (.int va), .val (.int vb), .val (.int vc), .val (.int vd), .val (.int (2 : Int32)), .val (.int (Int32.ofNat (own_dn va))), .val (.int (Int32.ofNat (own_dn vb))), .val (.int (Int32.ofNat (own_dn vc))), .val (.int (Int32.ofNat (own_dn vd))), .val (.ref b5), .val (.ref b19), .unset] []))
        refine Gd.go (fun _ w_k => XS.iload X29.here hx rfl (hb hby at_196) rfl (XS.iconst X29.here hx rfl (hb hby at_198) (XS.icmpYes X29.here hx rfl (pc0 := 199) (pc' := 214) rfl (hb hby at_199) rfl (tlt (by decide)).1 (by decide) (by decide) w_k))) ?_
        show Gd _ _ _ _ (T29.setTop (mkF m 214 #[.val (.int ln), .val (.int va), .val (.int vb), .val (.int vc), .val (.int vd), .val (.int (2 : Int32)), .val (.int (Int32.ofNat (own_dn va))), .val (.int (Int32.ofNat (own_dn vb))), .val (.int (Int32.ofNat (own_dn vc))), .val (.int (Int32.ofNat (own_dn vd))), .val (.ref b5), .val (.ref b19), .unset] []))
        refine Gd.go (fun _ w_k => XS.iconst X29.here hx rfl (hb hby at_214) w_k) ?_
        show Gd _ _ _ _ (T29.setTop (mkF m 215 #[.val (.int ln), .val (.int va), .val (.int vb), .val (.int vc), .val (.int vd), .val (.int (2 : Int32)), .val (.int (Int32.ofNat (own_dn va))), .val (.int (Int32.ofNat (own_dn vb))), .val (.int (Int32.ofNat (own_dn vc))), .val (.int (Int32.ofNat (own_dn vd))), .val (.ref b5), .val (.ref b19), .unset] [(.int (0 : Int32))]))
        have qe : (bI (own_any 2 (own_f (own_dn va) (own_dn vb) (own_dn vc) (own_dn vd)) = true)) = (0 : Int32) := bI_z (by simp [own_any, own_f, hc28, hc30])
        rw [qe] at J
        exact J ⟨T29, _⟩ ⟨X29, e29, xN26⟩
  obtain ⟨T_0, L_0⟩ := y
  obtain ⟨X_0, e_0, N_0⟩ := hy
  dsimp only at X_0 e_0 N_0 ⊢
  show Gd _ _ _ _ (T_0.setTop (mkF m 215 #[.val (.int ln), .val (.int va), .val (.int vb), .val (.int vc), .val (.int vd), .val (.int (2 : Int32)), .val (.int (Int32.ofNat (own_dn va))), .val (.int (Int32.ofNat (own_dn vb))), .val (.int (Int32.ofNat (own_dn vc))), .val (.int (Int32.ofNat (own_dn vd))), .val (.ref b5), .val (.ref b19), .unset] [(.int (bI (own_any 2 (own_f (own_dn va) (own_dn vb) (own_dn vc) (own_dn vd)) = true)))]))
  refine Gd.go (fun _ w_k => XS.istore X_0.here hx rfl (hb hby at_215) rfl (l' := #[.val (.int ln), .val (.int va), .val (.int vb), .val (.int vc), .val (.int vd), .val (.int (2 : Int32)), .val (.int (Int32.ofNat (own_dn va))), .val (.int (Int32.ofNat (own_dn vb))), .val (.int (Int32.ofNat (own_dn vc))), .val (.int (Int32.ofNat (own_dn vd))), .val (.ref b5), .val (.ref b19), .val (.int (bI (own_any 2 (own_f (own_dn va) (own_dn vb) (own_dn vc) (own_dn vd)) = true)))]) rfl (XS.aload X_0.here hx rfl (hb hby at_217) rfl rfl w_k)) ?_
  show Gd _ _ _ _ (T_0.setTop (mkF m 219 #[.val (.int ln), .val (.int va), .val (.int vb), .val (.int vc), .val (.int vd), .val (.int (2 : Int32)), .val (.int (Int32.ofNat (own_dn va))), .val (.int (Int32.ofNat (own_dn vb))), .val (.int (Int32.ofNat (own_dn vc))), .val (.int (Int32.ofNat (own_dn vd))), .val (.ref b5), .val (.ref b19), .val (.int (bI (own_any 2 (own_f (own_dn va) (own_dn vb) (own_dn vc) (own_dn vd)) = true)))] [(.ref b19)]))
  rcases hd with ⟨hall, HT⟩ | HT
  · obtain ⟨T31, X31, e31, st31⟩ := own_callSP X_0 hx hZ (y := (⟨"com/example/yuletally/yuletally/ScreenLines", "holdsControl", "(Ljava/lang/String;)Z"⟩ : MethodName)) hown (ow hw 27 rfl) (ow hw 28 rfl) (ow hw 29 rfl) (ow hw 30 rfl) (by decide) (W := 0) (own_c5_0 l Z a0 hw cs gv G T25.heap n0 O9 b19 W 2 (own_f (own_dn va) (own_dn vb) (own_dn vc) (own_dn vd)) (by decide) HT hall) rfl rfl e_0 (by decide) (by decide) (g := (mkF m 219 #[.val (.int ln), .val (.int va), .val (.int vb), .val (.int vc), .val (.int vd), .val (.int (2 : Int32)), .val (.int (Int32.ofNat (own_dn va))), .val (.int (Int32.ofNat (own_dn vb))), .val (.int (Int32.ofNat (own_dn vc))), .val (.int (Int32.ofNat (own_dn vd))), .val (.ref b5), .val (.ref b19), .val (.int (bI (own_any 2 (own_f (own_dn va) (own_dn vb) (own_dn vc) (own_dn vd)) = true)))] [(.ref b19)])) rfl (by rw [hml]; rfl) (argsL := [(.ref b19)]) (rest := []) (lenOf own_pd19 rfl) rfl (Nat.le_of_eq rfl) (hb hby at_219) rfl
    refine Gd.go (fun _ w_k => st31 _ w_k) ?_
    show Gd _ _ _ _ (T31.setTop (mkF m 222 #[.val (.int ln), .val (.int va), .val (.int vb), .val (.int vc), .val (.int vd), .val (.int (2 : Int32)), .val (.int (Int32.ofNat (own_dn va))), .val (.int (Int32.ofNat (own_dn vb))), .val (.int (Int32.ofNat (own_dn vc))), .val (.int (Int32.ofNat (own_dn vd))), .val (.ref b5), .val (.ref b19), .val (.int (bI (own_any 2 (own_f (own_dn va) (own_dn vb) (own_dn vc) (own_dn vd)) = true)))] [(.int (bI (own_any 2 (own_f (own_dn va) (own_dn vb) (own_dn vc) (own_dn vd)) = true)))]))
    refine Gd.go (fun _ w_k => XS.iload X31.here hx rfl (hb hby at_222) rfl (XS.icmpNo X31.here hx rfl (hb hby at_224) rfl (teq rfl).2 w_k)) ?_
    show Gd _ _ _ _ (T31.setTop (mkF m 227 #[.val (.int ln), .val (.int va), .val (.int vb), .val (.int vc), .val (.int vd), .val (.int (2 : Int32)), .val (.int (Int32.ofNat (own_dn va))), .val (.int (Int32.ofNat (own_dn vb))), .val (.int (Int32.ofNat (own_dn vc))), .val (.int (Int32.ofNat (own_dn vd))), .val (.ref b5), .val (.ref b19), .val (.int (bI (own_any 2 (own_f (own_dn va) (own_dn vb) (own_dn vc) (own_dn vd)) = true)))] []))
    refine Gd.go (fun _ w_k => XS.iconst X31.here hx rfl (hb hby at_227) (XS.goto X31.here hx rfl (pc0 := 228) (pc' := 232) rfl (hb hby at_228) (by decide) (by decide) w_k)) ?_
    show Gd _ _ _ _ (T31.setTop (mkF m 232 #[.val (.int ln), .val (.int va), .val (.int vb), .val (.int vc), .val (.int vd), .val (.int (2 : Int32)), .val (.int (Int32.ofNat (own_dn va))), .val (.int (Int32.ofNat (own_dn vb))), .val (.int (Int32.ofNat (own_dn vc))), .val (.int (Int32.ofNat (own_dn vd))), .val (.ref b5), .val (.ref b19), .val (.int (bI (own_any 2 (own_f (own_dn va) (own_dn vb) (own_dn vc) (own_dn vd)) = true)))] [(.int (1 : Int32))]))
    refine own_retN (t := .boolean) X31 hx hret hlk (by simp) (hb hby at_232) ?_ (by decide) (by decide)
    exact ⟨rfl, N_0⟩
  · obtain ⟨T32, X32, e32, st32⟩ := own_callSP X_0 hx hZ (y := (⟨"com/example/yuletally/yuletally/ScreenLines", "holdsControl", "(Ljava/lang/String;)Z"⟩ : MethodName)) hown (ow hw 27 rfl) (ow hw 28 rfl) (ow hw 29 rfl) (ow hw 30 rfl) (by decide) (W := 0) (own_c5_1 l Z a0 hw cs gv G T25.heap n0 O9 b19 W 2 (own_f (own_dn va) (own_dn vb) (own_dn vc) (own_dn vd)) (by decide) HT (fun i _ => (own_fby (own_dn_lt va).1 (own_dn_lt vb).1 (own_dn_lt vc).1 (own_dn_lt vd).1) i)) rfl rfl e_0 (by decide) (by decide) (g := (mkF m 219 #[.val (.int ln), .val (.int va), .val (.int vb), .val (.int vc), .val (.int vd), .val (.int (2 : Int32)), .val (.int (Int32.ofNat (own_dn va))), .val (.int (Int32.ofNat (own_dn vb))), .val (.int (Int32.ofNat (own_dn vc))), .val (.int (Int32.ofNat (own_dn vd))), .val (.ref b5), .val (.ref b19), .val (.int (bI (own_any 2 (own_f (own_dn va) (own_dn vb) (own_dn vc) (own_dn vd)) = true)))] [(.ref b19)])) rfl (by rw [hml]; rfl) (argsL := [(.ref b19)]) (rest := []) (lenOf own_pd19 rfl) rfl (Nat.le_of_eq rfl) (hb hby at_219) rfl
    refine Gd.go (fun _ w_k => st32 _ w_k) ?_
    show Gd _ _ _ _ (T32.setTop (mkF m 222 #[.val (.int ln), .val (.int va), .val (.int vb), .val (.int vc), .val (.int vd), .val (.int (2 : Int32)), .val (.int (Int32.ofNat (own_dn va))), .val (.int (Int32.ofNat (own_dn vb))), .val (.int (Int32.ofNat (own_dn vc))), .val (.int (Int32.ofNat (own_dn vd))), .val (.ref b5), .val (.ref b19), .val (.int (bI (own_any 2 (own_f (own_dn va) (own_dn vb) (own_dn vc) (own_dn vd)) = true)))] [(.int (bI (own_any 2 (own_f (own_dn va) (own_dn vb) (own_dn vc) (own_dn vd)) = true)))]))
    refine Gd.go (fun _ w_k => XS.iload X32.here hx rfl (hb hby at_222) rfl (XS.icmpNo X32.here hx rfl (hb hby at_224) rfl (teq rfl).2 w_k)) ?_
    show Gd _ _ _ _ (T32.setTop (mkF m 227 #[.val (.int ln), .val (.int va), .val (.int vb), .val (.int vc), .val (.int vd), .val (.int (2 : Int32)), .val (.int (Int32.ofNat (own_dn va))), .val (.int (Int32.ofNat (own_dn vb))), .val (.int (Int32.ofNat (own_dn vc))), .val (.int (Int32.ofNat (own_dn vd))), .val (.ref b5), .val (.ref b19), .val (.int (bI (own_any 2 (own_f (own_dn va) (own_dn vb) (own_dn vc) (own_dn vd)) = true)))] []))
    refine Gd.go (fun _ w_k => XS.iconst X32.here hx rfl (hb hby at_227) (XS.goto X32.here hx rfl (pc0 := 228) (pc' := 232) rfl (hb hby at_228) (by decide) (by decide) w_k)) ?_
    show Gd _ _ _ _ (T32.setTop (mkF m 232 #[.val (.int ln), .val (.int va), .val (.int vb), .val (.int vc), .val (.int vd), .val (.int (2 : Int32)), .val (.int (Int32.ofNat (own_dn va))), .val (.int (Int32.ofNat (own_dn vb))), .val (.int (Int32.ofNat (own_dn vc))), .val (.int (Int32.ofNat (own_dn vd))), .val (.ref b5), .val (.ref b19), .val (.int (bI (own_any 2 (own_f (own_dn va) (own_dn vb) (own_dn vc) (own_dn vd)) = true)))] [(.int (1 : Int32))]))
    refine own_retN (t := .boolean) X32 hx hret hlk (by simp) (hb hby at_232) ?_ (by decide) (by decide)
    exact ⟨rfl, N_0⟩
set_option maxRecDepth 65536 in
set_option maxHeartbeats 40000000 in
theorem own_law3 (l : Launch) (Z : State) (a0 : Array Value) (hw : ∀ d ∈ tables_1, d.before a0 Z = true) (ln va vb vc vd : Int32) (cs : Int32) (gv : Value) (G : own_G Z cs gv) (h0 : Heap) (n0 : Nat) (O0 : Old Z n0 h0) (Z0 : n0 ≤ h0.size) (hl : (ln &&& (2147483647 : Int32)) % (5 : Int32) = (3 : Int32)) :
    Con l Z x code maxLocals ret tables_1 room_1 24 1152 #[(.int ln), (.int va), (.int vb), (.int vc), (.int vd)] h0 (fun v h L => v = some (.int 1) ∧ Fr n0 L) := by
  refine Con.of own_pn25 ?_
  intro pg ev s_ m bl mt cd s₁ hx hby hml hown hnm hret hlk hZ X0 e0
  rw [ef_0]
  show Gd _ _ _ _ (s₁.setTop (mkF m 0 #[.val (.int ln), .val (.int va), .val (.int vb), .val (.int vc), .val (.int vd), .unset, .unset, .unset, .unset, .unset, .unset, .unset, .unset] []))
  have N0 := Fr.nil n0
  refine Gd.go (fun _ w_k => XS.iloadN X0.here hx rfl (hb hby at_0) rfl (X0.ldcInt hx hown (mvT hZ (ow hw 0 rfl)) (g := (mkF m 1 #[.val (.int ln), .val (.int va), .val (.int vb), .val (.int vc), .val (.int vd), .unset, .unset, .unset, .unset, .unset, .unset, .unset, .unset] [(.int ln)])) rfl (hb hby at_1) _ (XS.iand X0.here hx rfl (hb hby at_3) rfl (XS.iconst X0.here hx rfl (hb hby at_4) (iremM (g := (mkF m 5 #[.val (.int ln), .val (.int va), .val (.int vb), .val (.int vc), .val (.int vd), .unset, .unset, .unset, .unset, .unset, .unset, .unset, .unset] [(.int (5 : Int32)), (.int (ln &&& (2147483647 : Int32)))])) X0 hx rfl (hb hby at_5) rfl (by decide) w_k))))) ?_
  show Gd _ _ _ _ (s₁.setTop (mkF m 6 #[.val (.int ln), .val (.int va), .val (.int vb), .val (.int vc), .val (.int vd), .unset, .unset, .unset, .unset, .unset, .unset, .unset, .unset] [(.int ((ln &&& (2147483647 : Int32)) % (5 : Int32)))]))
  rw [hl]
  show Gd _ _ _ _ (s₁.setTop (mkF m 6 #[.val (.int ln), .val (.int va), .val (.int vb), .val (.int vc), .val (.int vd), .unset, .unset, .unset, .unset, .unset, .unset, .unset, .unset] [(.int (3 : Int32))]))
  refine Gd.go (fun _ w_k => XS.istore X0.here hx rfl (hb hby at_6) rfl (l' := #[.val (.int ln), .val (.int va), .val (.int vb), .val (.int vc), .val (.int vd), .val (.int (3 : Int32)), .unset, .unset, .unset, .unset, .unset, .unset, .unset]) rfl (XS.iloadN X0.here hx rfl (hb hby at_8) rfl w_k)) ?_
  show Gd _ _ _ _ (s₁.setTop (mkF m 9 #[.val (.int ln), .val (.int va), .val (.int vb), .val (.int vc), .val (.int vd), .val (.int (3 : Int32)), .unset, .unset, .unset, .unset, .unset, .unset, .unset] [(.int va)]))
  obtain ⟨T1, X1, e1, st1⟩ := own_callSP X0 hx hZ (y := (⟨"com/example/yuletally/yuletally/ScreenLinesHoldsControlPinLaw", "draw", "(I)C"⟩ : MethodName)) hown (ow hw 1 rfl) (ow hw 2 rfl) (ow hw 3 rfl) (ow hw 4 rfl) (by decide) (W := 0) (own_c1 l Z a0 hw va h0) rfl rfl e0 (by decide) (by decide) (g := (mkF m 9 #[.val (.int ln), .val (.int va), .val (.int vb), .val (.int vc), .val (.int vd), .val (.int (3 : Int32)), .unset, .unset, .unset, .unset, .unset, .unset, .unset] [(.int va)])) rfl (by rw [hml]; rfl) (argsL := [(.int va)]) (rest := []) (lenOf own_pd9 rfl) rfl (Nat.le_of_eq rfl) (hb hby at_9) rfl
  refine Gd.go (fun _ w_k => st1 _ (XS.istore X1.here hx rfl (hb hby at_12) rfl (l' := #[.val (.int ln), .val (.int va), .val (.int vb), .val (.int vc), .val (.int vd), .val (.int (3 : Int32)), .val (.int (Int32.ofNat (own_dn va))), .unset, .unset, .unset, .unset, .unset, .unset]) rfl (XS.iloadN X1.here hx rfl (hb hby at_14) rfl w_k))) ?_
  show Gd _ _ _ _ (T1.setTop (mkF m 15 #[.val (.int ln), .val (.int va), .val (.int vb), .val (.int vc), .val (.int vd), .val (.int (3 : Int32)), .val (.int (Int32.ofNat (own_dn va))), .unset, .unset, .unset, .unset, .unset, .unset] [(.int vb)]))
  obtain ⟨T2, X2, e2, st2⟩ := own_callSP X1 hx hZ (y := (⟨"com/example/yuletally/yuletally/ScreenLinesHoldsControlPinLaw", "draw", "(I)C"⟩ : MethodName)) hown (ow hw 1 rfl) (ow hw 2 rfl) (ow hw 3 rfl) (ow hw 4 rfl) (by decide) (W := 0) (own_c1 l Z a0 hw vb h0) rfl rfl e1 (by decide) (by decide) (g := (mkF m 15 #[.val (.int ln), .val (.int va), .val (.int vb), .val (.int vc), .val (.int vd), .val (.int (3 : Int32)), .val (.int (Int32.ofNat (own_dn va))), .unset, .unset, .unset, .unset, .unset, .unset] [(.int vb)])) rfl (by rw [hml]; rfl) (argsL := [(.int vb)]) (rest := []) (lenOf own_pd9 rfl) rfl (Nat.le_of_eq rfl) (hb hby at_15) rfl
  refine Gd.go (fun _ w_k => st2 _ (XS.istore X2.here hx rfl (hb hby at_18) rfl (l' := #[.val (.int ln), .val (.int va), .val (.int vb), .val (.int vc), .val (.int vd), .val (.int (3 : Int32)), .val (.int (Int32.ofNat (own_dn va))), .val (.int (Int32.ofNat (own_dn vb))), .unset, .unset, .unset, .unset, .unset]) rfl (XS.iloadN X2.here hx rfl (hb hby at_20) rfl w_k))) ?_
  show Gd _ _ _ _ (T2.setTop (mkF m 21 #[.val (.int ln), .val (.int va), .val (.int vb), .val (.int vc), .val (.int vd), .val (.int (3 : Int32)), .val (.int (Int32.ofNat (own_dn va))), .val (.int (Int32.ofNat (own_dn vb))), .unset, .unset, .unset, .unset, .unset] [(.int vc)]))
  obtain ⟨T3, X3, e3, st3⟩ := own_callSP X2 hx hZ (y := (⟨"com/example/yuletally/yuletally/ScreenLinesHoldsControlPinLaw", "draw", "(I)C"⟩ : MethodName)) hown (ow hw 1 rfl) (ow hw 2 rfl) (ow hw 3 rfl) (ow hw 4 rfl) (by decide) (W := 0) (own_c1 l Z a0 hw vc h0) rfl rfl e2 (by decide) (by decide) (g := (mkF m 21 #[.val (.int ln), .val (.int va), .val (.int vb), .val (.int vc), .val (.int vd), .val (.int (3 : Int32)), .val (.int (Int32.ofNat (own_dn va))), .val (.int (Int32.ofNat (own_dn vb))), .unset, .unset, .unset, .unset, .unset] [(.int vc)])) rfl (by rw [hml]; rfl) (argsL := [(.int vc)]) (rest := []) (lenOf own_pd9 rfl) rfl (Nat.le_of_eq rfl) (hb hby at_21) rfl
  refine Gd.go (fun _ w_k => st3 _ (XS.istore X3.here hx rfl (hb hby at_24) rfl (l' := #[.val (.int ln), .val (.int va), .val (.int vb), .val (.int vc), .val (.int vd), .val (.int (3 : Int32)), .val (.int (Int32.ofNat (own_dn va))), .val (.int (Int32.ofNat (own_dn vb))), .val (.int (Int32.ofNat (own_dn vc))), .unset, .unset, .unset, .unset]) rfl (XS.iload X3.here hx rfl (hb hby at_26) rfl w_k))) ?_
  show Gd _ _ _ _ (T3.setTop (mkF m 28 #[.val (.int ln), .val (.int va), .val (.int vb), .val (.int vc), .val (.int vd), .val (.int (3 : Int32)), .val (.int (Int32.ofNat (own_dn va))), .val (.int (Int32.ofNat (own_dn vb))), .val (.int (Int32.ofNat (own_dn vc))), .unset, .unset, .unset, .unset] [(.int vd)]))
  obtain ⟨T4, X4, e4, st4⟩ := own_callSP X3 hx hZ (y := (⟨"com/example/yuletally/yuletally/ScreenLinesHoldsControlPinLaw", "draw", "(I)C"⟩ : MethodName)) hown (ow hw 1 rfl) (ow hw 2 rfl) (ow hw 3 rfl) (ow hw 4 rfl) (by decide) (W := 0) (own_c1 l Z a0 hw vd h0) rfl rfl e3 (by decide) (by decide) (g := (mkF m 28 #[.val (.int ln), .val (.int va), .val (.int vb), .val (.int vc), .val (.int vd), .val (.int (3 : Int32)), .val (.int (Int32.ofNat (own_dn va))), .val (.int (Int32.ofNat (own_dn vb))), .val (.int (Int32.ofNat (own_dn vc))), .unset, .unset, .unset, .unset] [(.int vd)])) rfl (by rw [hml]; rfl) (argsL := [(.int vd)]) (rest := []) (lenOf own_pd9 rfl) rfl (Nat.le_of_eq rfl) (hb hby at_28) rfl
  refine Gd.go (fun _ w_k => st4 _ (XS.istore X4.here hx rfl (hb hby at_31) rfl (l' := #[.val (.int ln), .val (.int va), .val (.int vb), .val (.int vc), .val (.int vd), .val (.int (3 : Int32)), .val (.int (Int32.ofNat (own_dn va))), .val (.int (Int32.ofNat (own_dn vb))), .val (.int (Int32.ofNat (own_dn vc))), .val (.int (Int32.ofNat (own_dn vd))), .unset, .unset, .unset]) rfl (XS.iload X4.here hx rfl (hb hby at_33) rfl (XS.ifYes X4.here hx rfl (pc0 := 35) (pc' := 46) rfl (hb hby at_35) rfl ((if0 _ _).trans (feq (by decide)).2) (by decide) (by decide) w_k)))) ?_
  show Gd _ _ _ _ (T4.setTop (mkF m 46 #[.val (.int ln), .val (.int va), .val (.int vb), .val (.int vc), .val (.int vd), .val (.int (3 : Int32)), .val (.int (Int32.ofNat (own_dn va))), .val (.int (Int32.ofNat (own_dn vb))), .val (.int (Int32.ofNat (own_dn vc))), .val (.int (Int32.ofNat (own_dn vd))), .unset, .unset, .unset] []))
  refine Gd.go (fun _ w_k => XS.iload X4.here hx rfl (hb hby at_46) rfl (XS.iconst X4.here hx rfl (hb hby at_48) (XS.icmpYes X4.here hx rfl (pc0 := 49) (pc' := 65) rfl (hb hby at_49) rfl (feq (by decide)).2 (by decide) (by decide) w_k))) ?_
  show Gd _ _ _ _ (T4.setTop (mkF m 65 #[.val (.int ln), .val (.int va), .val (.int vb), .val (.int vc), .val (.int vd), .val (.int (3 : Int32)), .val (.int (Int32.ofNat (own_dn va))), .val (.int (Int32.ofNat (own_dn vb))), .val (.int (Int32.ofNat (own_dn vc))), .val (.int (Int32.ofNat (own_dn vd))), .unset, .unset, .unset] []))
  refine Gd.go (fun _ w_k => XS.iload X4.here hx rfl (hb hby at_65) rfl (XS.iconst X4.here hx rfl (hb hby at_67) (XS.icmpYes X4.here hx rfl (pc0 := 68) (pc' := 89) rfl (hb hby at_68) rfl (feq (by decide)).2 (by decide) (by decide) w_k))) ?_
  show Gd _ _ _ _ (T4.setTop (mkF m 89 #[.val (.int ln), .val (.int va), .val (.int vb), .val (.int vc), .val (.int vd), .val (.int (3 : Int32)), .val (.int (Int32.ofNat (own_dn va))), .val (.int (Int32.ofNat (own_dn vb))), .val (.int (Int32.ofNat (own_dn vc))), .val (.int (Int32.ofNat (own_dn vd))), .unset, .unset, .unset] []))
  refine Gd.go (fun _ w_k => XS.iload X4.here hx rfl (hb hby at_89) rfl (XS.iconst X4.here hx rfl (hb hby at_91) (XS.icmpNo X4.here hx rfl (hb hby at_92) rfl (teq (by decide)).2 w_k))) ?_
  show Gd _ _ _ _ (T4.setTop (mkF m 95 #[.val (.int ln), .val (.int va), .val (.int vb), .val (.int vc), .val (.int vd), .val (.int (3 : Int32)), .val (.int (Int32.ofNat (own_dn va))), .val (.int (Int32.ofNat (own_dn vb))), .val (.int (Int32.ofNat (own_dn vc))), .val (.int (Int32.ofNat (own_dn vd))), .unset, .unset, .unset] []))
  refine Gd.go (fun _ w_k => XS.iconst X4.here hx rfl (hb hby at_95) w_k) ?_
  show Gd _ _ _ _ (T4.setTop (mkF m 96 #[.val (.int ln), .val (.int va), .val (.int vb), .val (.int vc), .val (.int vd), .val (.int (3 : Int32)), .val (.int (Int32.ofNat (own_dn va))), .val (.int (Int32.ofNat (own_dn vb))), .val (.int (Int32.ofNat (own_dn vc))), .val (.int (Int32.ofNat (own_dn vd))), .unset, .unset, .unset] [(.int (3 : Int32))]))
  obtain ⟨T5, h5, k5, X5, e5, E5, A5, st5⟩ := newP X4 hx hZ (ow hw 5 rfl) e4 (g := (mkF m 96 #[.val (.int ln), .val (.int va), .val (.int vb), .val (.int vc), .val (.int vd), .val (.int (3 : Int32)), .val (.int (Int32.ofNat (own_dn va))), .val (.int (Int32.ofNat (own_dn vb))), .val (.int (Int32.ofNat (own_dn vc))), .val (.int (Int32.ofNat (own_dn vd))), .unset, .unset, .unset] [(.int (3 : Int32))])) rfl (hb hby at_96) rfl (by decide) (cap := 3) (by decide) (by decide) (by decide) (by decide)
  obtain ⟨b5, g5⟩ : ∃ z, z = h0.size := ⟨_, rfl⟩
  rw [← g5] at A5 st5
  have n0_b5 : n0 ≤ b5 := Nat.le_trans Z0 (Nat.le_of_eq g5.symm)
  have xO6 := Old.ext O0 E5
  have xZs7 := Nat.le_trans Z0 E5.1
  have xF8 : ArF Z h5 b5 .char 3 (fun _ => (.int (0 : Int32))) := own_new (h := h0) A5 (by decide)
  refine Gd.go (fun _ w_k => st5 _ (XS.dup X5.here hx rfl (hb hby at_98) rfl rfl (XS.iconst X5.here hx rfl (hb hby at_99) (XS.iload X5.here hx rfl (hb hby at_100) rfl w_k)))) ?_
  show Gd _ _ _ _ (T5.setTop (mkF m 102 #[.val (.int ln), .val (.int va), .val (.int vb), .val (.int vc), .val (.int vd), .val (.int (3 : Int32)), .val (.int (Int32.ofNat (own_dn va))), .val (.int (Int32.ofNat (own_dn vb))), .val (.int (Int32.ofNat (own_dn vc))), .val (.int (Int32.ofNat (own_dn vd))), .unset, .unset, .unset] [(.int (Int32.ofNat (own_dn va))), (.int (0 : Int32)), (.ref b5), (.ref b5)]))
  obtain ⟨T9, h9, X9, e9, W9, st9⟩ := own_stC X5 hx hZ e5 xF8 (j := (0 : Int32)) (by decide) (by decide) (g := (mkF m 102 #[.val (.int ln), .val (.int va), .val (.int vb), .val (.int vc), .val (.int vd), .val (.int (3 : Int32)), .val (.int (Int32.ofNat (own_dn va))), .val (.int (Int32.ofNat (own_dn vb))), .val (.int (Int32.ofNat (own_dn vc))), .val (.int (Int32.ofNat (own_dn vd))), .unset, .unset, .unset] [(.int (Int32.ofNat (own_dn va))), (.int (0 : Int32)), (.ref b5), (.ref b5)])) rfl rfl (hb hby at_102)
  refine Gd.go (fun _ w_k => st9 _ w_k) ?_
  have xF10 := xF8.set W9
  have xN11 := Fr.snoc X9 N0 n0_b5
  have xO12 := Old.wr xO6 W9 n0_b5
  have xZs13 := Nat.le_trans xZs7 (Keep.of_wr W9).1
  show Gd _ _ _ _ (T9.setTop (mkF m 103 #[.val (.int ln), .val (.int va), .val (.int vb), .val (.int vc), .val (.int vd), .val (.int (3 : Int32)), .val (.int (Int32.ofNat (own_dn va))), .val (.int (Int32.ofNat (own_dn vb))), .val (.int (Int32.ofNat (own_dn vc))), .val (.int (Int32.ofNat (own_dn vd))), .unset, .unset, .unset] [(.ref b5)]))
  refine Gd.go (fun _ w_k => XS.dup X9.here hx rfl (hb hby at_103) rfl rfl (XS.iconst X9.here hx rfl (hb hby at_104) (XS.iload X9.here hx rfl (hb hby at_105) rfl w_k))) ?_
  show Gd _ _ _ _ (T9.setTop (mkF m 107 #[.val (.int ln), .val (.int va), .val (.int vb), .val (.int vc), .val (.int vd), .val (.int (3 : Int32)), .val (.int (Int32.ofNat (own_dn va))), .val (.int (Int32.ofNat (own_dn vb))), .val (.int (Int32.ofNat (own_dn vc))), .val (.int (Int32.ofNat (own_dn vd))), .unset, .unset, .unset] [(.int (Int32.ofNat (own_dn vb))), (.int (1 : Int32)), (.ref b5), (.ref b5)]))
  obtain ⟨T14, h14, X14, e14, W14, st14⟩ := own_stC X9 hx hZ e9 xF10 (j := (1 : Int32)) (by decide) (by decide) (g := (mkF m 107 #[.val (.int ln), .val (.int va), .val (.int vb), .val (.int vc), .val (.int vd), .val (.int (3 : Int32)), .val (.int (Int32.ofNat (own_dn va))), .val (.int (Int32.ofNat (own_dn vb))), .val (.int (Int32.ofNat (own_dn vc))), .val (.int (Int32.ofNat (own_dn vd))), .unset, .unset, .unset] [(.int (Int32.ofNat (own_dn vb))), (.int (1 : Int32)), (.ref b5), (.ref b5)])) rfl rfl (hb hby at_107)
  refine Gd.go (fun _ w_k => st14 _ w_k) ?_
  have xF15 := xF10.set W14
  have xN16 := Fr.snoc X14 xN11 n0_b5
  have xO17 := Old.wr xO12 W14 n0_b5
  have xZs18 := Nat.le_trans xZs13 (Keep.of_wr W14).1
  show Gd _ _ _ _ (T14.setTop (mkF m 108 #[.val (.int ln), .val (.int va), .val (.int vb), .val (.int vc), .val (.int vd), .val (.int (3 : Int32)), .val (.int (Int32.ofNat (own_dn va))), .val (.int (Int32.ofNat (own_dn vb))), .val (.int (Int32.ofNat (own_dn vc))), .val (.int (Int32.ofNat (own_dn vd))), .unset, .unset, .unset] [(.ref b5)]))
  refine Gd.go (fun _ w_k => XS.dup X14.here hx rfl (hb hby at_108) rfl rfl (XS.iconst X14.here hx rfl (hb hby at_109) (XS.iload X14.here hx rfl (hb hby at_110) rfl w_k))) ?_
  show Gd _ _ _ _ (T14.setTop (mkF m 112 #[.val (.int ln), .val (.int va), .val (.int vb), .val (.int vc), .val (.int vd), .val (.int (3 : Int32)), .val (.int (Int32.ofNat (own_dn va))), .val (.int (Int32.ofNat (own_dn vb))), .val (.int (Int32.ofNat (own_dn vc))), .val (.int (Int32.ofNat (own_dn vd))), .unset, .unset, .unset] [(.int (Int32.ofNat (own_dn vc))), (.int (2 : Int32)), (.ref b5), (.ref b5)]))
  obtain ⟨T19, h19, X19, e19, W19, st19⟩ := own_stC X14 hx hZ e14 xF15 (j := (2 : Int32)) (by decide) (by decide) (g := (mkF m 112 #[.val (.int ln), .val (.int va), .val (.int vb), .val (.int vc), .val (.int vd), .val (.int (3 : Int32)), .val (.int (Int32.ofNat (own_dn va))), .val (.int (Int32.ofNat (own_dn vb))), .val (.int (Int32.ofNat (own_dn vc))), .val (.int (Int32.ofNat (own_dn vd))), .unset, .unset, .unset] [(.int (Int32.ofNat (own_dn vc))), (.int (2 : Int32)), (.ref b5), (.ref b5)])) rfl rfl (hb hby at_112)
  refine Gd.go (fun _ w_k => st19 _ w_k) ?_
  have xF20 := xF15.set W19
  have xN21 := Fr.snoc X19 xN16 n0_b5
  have xO22 := Old.wr xO17 W19 n0_b5
  have xZs23 := Nat.le_trans xZs18 (Keep.of_wr W19).1
  show Gd _ _ _ _ (T19.setTop (mkF m 113 #[.val (.int ln), .val (.int va), .val (.int vb), .val (.int vc), .val (.int vd), .val (.int (3 : Int32)), .val (.int (Int32.ofNat (own_dn va))), .val (.int (Int32.ofNat (own_dn vb))), .val (.int (Int32.ofNat (own_dn vc))), .val (.int (Int32.ofNat (own_dn vd))), .unset, .unset, .unset] [(.ref b5)]))
  refine Gd.go (fun _ w_k => XS.astore X19.here hx rfl (hb hby at_113) rfl rfl (l' := #[.val (.int ln), .val (.int va), .val (.int vb), .val (.int vc), .val (.int vd), .val (.int (3 : Int32)), .val (.int (Int32.ofNat (own_dn va))), .val (.int (Int32.ofNat (own_dn vb))), .val (.int (Int32.ofNat (own_dn vc))), .val (.int (Int32.ofNat (own_dn vd))), .val (.ref b5), .unset, .unset]) rfl (XS.goto X19.here hx rfl (pc0 := 115) (pc' := 143) rfl (hb hby at_115) (by decide) (by decide) w_k)) ?_
  show Gd _ _ _ _ (T19.setTop (mkF m 143 #[.val (.int ln), .val (.int va), .val (.int vb), .val (.int vc), .val (.int vd), .val (.int (3 : Int32)), .val (.int (Int32.ofNat (own_dn va))), .val (.int (Int32.ofNat (own_dn vb))), .val (.int (Int32.ofNat (own_dn vc))), .val (.int (Int32.ofNat (own_dn vd))), .val (.ref b5), .unset, .unset] []))
  obtain ⟨T24, h24, X24, e24, E24, A24, D24, -, st24⟩ := newO X19 hx hZ hown (ow hw 6 rfl) (ow hw 7 rfl) (ow hw 8 rfl) e19 (g := (mkF m 143 #[.val (.int ln), .val (.int va), .val (.int vb), .val (.int vc), .val (.int vd), .val (.int (3 : Int32)), .val (.int (Int32.ofNat (own_dn va))), .val (.int (Int32.ofNat (own_dn vb))), .val (.int (Int32.ofNat (own_dn vc))), .val (.int (Int32.ofNat (own_dn vd))), .val (.ref b5), .unset, .unset] [])) rfl (hb hby at_143) (by decide) (by decide)
  obtain ⟨b24, g24⟩ : ∃ z, z = h19.size := ⟨_, rfl⟩
  rw [← g24] at A24 D24 st24
  have ne_b5_b24 : b5 ≠ b24 := fun q => Nat.lt_irrefl _ (Nat.lt_of_lt_of_le xF20.lt (Nat.le_of_eq (q.trans g24).symm))
  have n0_b24 : n0 ≤ b24 := Nat.le_trans xZs23 (Nat.le_of_eq g24.symm)
  have xF25 := xF20.ext E24
  have xO26 := Old.ext xO22 E24
  have xZs27 := Nat.le_trans xZs23 E24.1
  have xF28 : Fld Z h24 b24 "java/lang/String" "value" "[B" .null := D24 (Or.inr (ow hw 21 rfl)) (ty := (.array .byte)) (by decide)
  have xF29 : Fld Z h24 b24 "java/lang/String" "coder" "B" (.int (0 : Int32)) := D24 (Or.inr (ow hw 22 rfl)) (ty := .byte) (by decide)
  refine Gd.go (fun _ w_k => st24 _ (XS.dup X24.here hx rfl (hb hby at_146) rfl rfl (XS.aload X24.here hx rfl (hb hby at_147) rfl rfl w_k))) ?_
  show Gd _ _ _ _ (T24.setTop (mkF m 149 #[.val (.int ln), .val (.int va), .val (.int vb), .val (.int vc), .val (.int vd), .val (.int (3 : Int32)), .val (.int (Int32.ofNat (own_dn va))), .val (.int (Int32.ofNat (own_dn vb))), .val (.int (Int32.ofNat (own_dn vc))), .val (.int (Int32.ofNat (own_dn vd))), .val (.ref b5), .unset, .unset] [(.ref b5), (.ref b24), (.ref b24)]))
  have cA : ArF Z h24 b5 .char 3 (own_chs (own_f (own_dn va) (own_dn vb) (own_dn vc) (own_dn vd))) := xF25.congr (fun i hi => (match i, hi with
    | 0, _ => congrArg Value.int (own_i2c (own_dn_lt va).1)
    | 1, _ => congrArg Value.int (own_i2c (own_dn_lt vb).1)
    | 2, _ => congrArg Value.int (own_i2c (own_dn_lt vc).1)
    | (q + 3), h => absurd h (by omega)))
  obtain ⟨v30, T30, L30, X30, hQ30, st30⟩ := own_callI X24 hx hZ (y := (⟨"java/lang/String", "<init>", "([C)V"⟩ : MethodName)) rfl hown (ow hw 9 rfl) (ow hw 10 rfl) (ow hw 8 rfl) (ow hw 11 rfl) (by decide) (b := b24) (W := 1) (own_c2 l Z a0 hw cs gv G h24 n0 xO26 xZs27 b24 n0_b24 A24 xF28 xF29 b5 3 (by decide) (own_f (own_dn va) (own_dn vb) (own_dn vc) (own_dn vd)) (own_fby (own_dn_lt va).1 (own_dn_lt vb).1 (own_dn_lt vc).1 (own_dn_lt vd).1) cA (by decide) ne_b5_b24) rfl rfl e24 (by decide) (by decide) (g := (mkF m 149 #[.val (.int ln), .val (.int va), .val (.int vb), .val (.int vc), .val (.int vd), .val (.int (3 : Int32)), .val (.int (Int32.ofNat (own_dn va))), .val (.int (Int32.ofNat (own_dn vb))), .val (.int (Int32.ofNat (own_dn vc))), .val (.int (Int32.ofNat (own_dn vd))), .val (.ref b5), .unset, .unset] [(.ref b5), (.ref b24), (.ref b24)])) rfl (by rw [hml]; rfl) (argsL := [(.ref b5)]) (rest := [(.ref b24)]) (lenOf own_pd18 rfl) rfl (Nat.le_of_eq rfl) (hb hby at_149) rfl (by decide) (by decide)
  obtain ⟨rfl, ⟨W, hd⟩, O9, N9⟩ := hQ30
  refine Gd.go (fun _ w_k => st30 _ w_k) ?_
  show Gd _ _ _ _ (T30.setTop (mkF m 152 #[.val (.int ln), .val (.int va), .val (.int vb), .val (.int vc), .val (.int vd), .val (.int (3 : Int32)), .val (.int (Int32.ofNat (own_dn va))), .val (.int (Int32.ofNat (own_dn vb))), .val (.int (Int32.ofNat (own_dn vc))), .val (.int (Int32.ofNat (own_dn vd))), .val (.ref b5), .unset, .unset] [(.ref b24)]))
  have xN31 := Fr.app xN21 N9
  refine Gd.go (fun _ w_k => XS.astore X30.here hx rfl (hb hby at_152) rfl rfl (l' := #[.val (.int ln), .val (.int va), .val (.int vb), .val (.int vc), .val (.int vd), .val (.int (3 : Int32)), .val (.int (Int32.ofNat (own_dn va))), .val (.int (Int32.ofNat (own_dn vb))), .val (.int (Int32.ofNat (own_dn vc))), .val (.int (Int32.ofNat (own_dn vd))), .val (.ref b5), .val (.ref b24), .unset]) rfl w_k) ?_
  show Gd _ _ _ _ (T30.setTop (mkF m 154 #[.val (.int ln), .val (.int va), .val (.int vb), .val (.int vc), .val (.int vd), .val (.int (3 : Int32)), .val (.int (Int32.ofNat (own_dn va))), .val (.int (Int32.ofNat (own_dn vb))), .val (.int (Int32.ofNat (own_dn vc))), .val (.int (Int32.ofNat (own_dn vd))), .val (.ref b5), .val (.ref b24), .unset] []))
  refine Gd.viaA (A := fun y : State × List Loc => Stand pg l ev room_1 s_ m #[(.int ln), (.int va), (.int vb), (.int vc), (.int vd)] bl mt cd y.1 y.2 4 19 ∧ y.1.heap = T30.heap ∧ Fr n0 y.2) (S' := fun y => y.1.setTop (mkF m 215 #[.val (.int ln), .val (.int va), .val (.int vb), .val (.int vc), .val (.int vd), .val (.int (3 : Int32)), .val (.int (Int32.ofNat (own_dn va))), .val (.int (Int32.ofNat (own_dn vb))), .val (.int (Int32.ofNat (own_dn vc))), .val (.int (Int32.ofNat (own_dn vd))), .val (.ref b5), .val (.ref b24), .unset] [(.int (bI (own_any 3 (own_f (own_dn va) (own_dn vb) (own_dn vc) (own_dn vd)) = true)))])) (fun J => ?_) (fun y hy => ?_)
  · refine Gd.go (fun _ w_k => XS.iload X30.here hx rfl (hb hby at_154) rfl (XS.iconst X30.here hx rfl (hb hby at_156) (XS.icmpNo X30.here hx rfl (hb hby at_157) rfl (flt (by decide)).1 w_k))) ?_
    show Gd _ _ _ _ (T30.setTop (mkF m 160 #[.val (.int ln), .val (.int va), .val (.int vb), .val (.int vc), .val (.int vd), .val (.int (3 : Int32)), .val (.int (Int32.ofNat (own_dn va))), .val (.int (Int32.ofNat (own_dn vb))), .val (.int (Int32.ofNat (own_dn vc))), .val (.int (Int32.ofNat (own_dn vd))), .val (.ref b5), .val (.ref b24), .unset] []))
    refine Gd.go (fun _ w_k => XS.iload X30.here hx rfl (hb hby at_160) rfl w_k) ?_
    show Gd _ _ _ _ (T30.setTop (mkF m 162 #[.val (.int ln), .val (.int va), .val (.int vb), .val (.int vc), .val (.int vd), .val (.int (3 : Int32)), .val (.int (Int32.ofNat (own_dn va))), .val (.int (Int32.ofNat (own_dn vb))), .val (.int (Int32.ofNat (own_dn vc))), .val (.int (Int32.ofNat (own_dn vd))), .val (.ref b5), .val (.ref b24), .unset] [(.int (Int32.ofNat (own_dn va)))]))
    obtain ⟨T32, X32, e32, st32⟩ := own_callSP X30 hx hZ (y := (⟨"com/example/yuletally/yuletally/ScreenLinesHoldsControlPinLaw", "ctl", "(C)Z"⟩ : MethodName)) hown (ow hw 52 rfl) (ow hw 53 rfl) (ow hw 3 rfl) (ow hw 54 rfl) (by decide) (W := 0) (own_c11 l Z a0 hw (own_dn va) (own_dn_lt va).1 T30.heap) rfl rfl rfl (by decide) (by decide) (g := (mkF m 162 #[.val (.int ln), .val (.int va), .val (.int vb), .val (.int vc), .val (.int vd), .val (.int (3 : Int32)), .val (.int (Int32.ofNat (own_dn va))), .val (.int (Int32.ofNat (own_dn vb))), .val (.int (Int32.ofNat (own_dn vc))), .val (.int (Int32.ofNat (own_dn vd))), .val (.ref b5), .val (.ref b24), .unset] [(.int (Int32.ofNat (own_dn va)))])) rfl (by rw [hml]; rfl) (argsL := [(.int (Int32.ofNat (own_dn va)))]) (rest := []) (lenOf own_pd10 rfl) rfl (Nat.le_of_eq rfl) (hb hby at_162) rfl
    refine Gd.go (fun _ w_k => st32 _ w_k) ?_
    show Gd _ _ _ _ (T32.setTop (mkF m 165 #[.val (.int ln), .val (.int va), .val (.int vb), .val (.int vc), .val (.int vd), .val (.int (3 : Int32)), .val (.int (Int32.ofNat (own_dn va))), .val (.int (Int32.ofNat (own_dn vb))), .val (.int (Int32.ofNat (own_dn vc))), .val (.int (Int32.ofNat (own_dn vd))), .val (.ref b5), .val (.ref b24), .unset] [(.int (bI (own_ctl (own_dn va) = true)))]))
    by_cases hc33 : own_ctl (own_dn va) = true
    · refine Gd.go (fun _ w_k => XS.ifYes X32.here hx rfl (pc0 := 165) (pc' := 210) rfl (hb hby at_165) rfl ((if0 _ _).trans (feq (bI_ne hc33)).2) (by decide) (by decide) w_k) ?_
      show Gd _ _ _ _ (T32.setTop (mkF m 210 #[.val (.int ln), .val (.int va), .val (.int vb), .val (.int vc), .val (.int vd), .val (.int (3 : Int32)), .val (.int (Int32.ofNat (own_dn va))), .val (.int (Int32.ofNat (own_dn vb))), .val (.int (Int32.ofNat (own_dn vc))), .val (.int (Int32.ofNat (own_dn vd))), .val (.ref b5), .val (.ref b24), .unset] []))
      refine Gd.go (fun _ w_k => XS.iconst X32.here hx rfl (hb hby at_210) (XS.goto X32.here hx rfl (pc0 := 211) (pc' := 215) rfl (hb hby at_211) (by decide) (by decide) w_k)) ?_
      show Gd _ _ _ _ (T32.setTop (mkF m 215 #[.val (.int ln), .val (.int va), .val (.int vb), .val (.int vc), .val (.int vd), .val (.int (3 : Int32)), .val (.int (Int32.ofNat (own_dn va))), .val (.int (Int32.ofNat (own_dn vb))), .val (.int (Int32.ofNat (own_dn vc))), .val (.int (Int32.ofNat (own_dn vd))), .val (.ref b5), .val (.ref b24), .unset] [(.int (1 : Int32))]))
      have qe : (bI (own_any 3 (own_f (own_dn va) (own_dn vb) (own_dn vc) (own_dn vd)) = true)) = (1 : Int32) := bI_o (by simp [own_any, own_f, hc33])
      rw [qe] at J
      exact J ⟨T32, _⟩ ⟨X32, e32, xN31⟩
    · refine Gd.go (fun _ w_k => XS.ifNo X32.here hx rfl (hb hby at_165) rfl ((if0 _ _).trans (teq (bI_z hc33)).2) w_k) ?_
      show Gd _ _ _ _ (T32.setTop (mkF m 168 #[.val (.int ln), .val (.int va), .val (.int vb), .val (.int vc), .val (.int vd), .val (.int (3 : Int32)), .val (.int (Int32.ofNat (own_dn va))), .val (.int (Int32.ofNat (own_dn vb))), .val (.int (Int32.ofNat (own_dn vc))), .val (.int (Int32.ofNat (own_dn vd))), .val (.ref b5), .val (.ref b24), .unset] []))
      refine Gd.go (fun _ w_k => XS.iload X32.here hx rfl (hb hby at_168) rfl (XS.iconst X32.here hx rfl (hb hby at_170) (XS.icmpNo X32.here hx rfl (hb hby at_171) rfl (flt (by decide)).1 w_k))) ?_
      show Gd _ _ _ _ (T32.setTop (mkF m 174 #[.val (.int ln), .val (.int va), .val (.int vb), .val (.int vc), .val (.int vd), .val (.int (3 : Int32)), .val (.int (Int32.ofNat (own_dn va))), .val (.int (Int32.ofNat (own_dn vb))), .val (.int (Int32.ofNat (own_dn vc))), .val (.int (Int32.ofNat (own_dn vd))), .val (.ref b5), .val (.ref b24), .unset] []))
      refine Gd.go (fun _ w_k => XS.iload X32.here hx rfl (hb hby at_174) rfl w_k) ?_
      show Gd _ _ _ _ (T32.setTop (mkF m 176 #[.val (.int ln), .val (.int va), .val (.int vb), .val (.int vc), .val (.int vd), .val (.int (3 : Int32)), .val (.int (Int32.ofNat (own_dn va))), .val (.int (Int32.ofNat (own_dn vb))), .val (.int (Int32.ofNat (own_dn vc))), .val (.int (Int32.ofNat (own_dn vd))), .val (.ref b5), .val (.ref b24), .unset] [(.int (Int32.ofNat (own_dn vb)))]))
      obtain ⟨T34, X34, e34, st34⟩ := own_callSP X32 hx hZ (y := (⟨"com/example/yuletally/yuletally/ScreenLinesHoldsControlPinLaw", "ctl", "(C)Z"⟩ : MethodName)) hown (ow hw 52 rfl) (ow hw 53 rfl) (ow hw 3 rfl) (ow hw 54 rfl) (by decide) (W := 0) (own_c11 l Z a0 hw (own_dn vb) (own_dn_lt vb).1 T30.heap) rfl rfl e32 (by decide) (by decide) (g := (mkF m 176 #[.val (.int ln), .val (.int va), .val (.int vb), .val (.int vc), .val (.int vd), .val (.int (3 : Int32)), .val (.int (Int32.ofNat (own_dn va))), .val (.int (Int32.ofNat (own_dn vb))), .val (.int (Int32.ofNat (own_dn vc))), .val (.int (Int32.ofNat (own_dn vd))), .val (.ref b5), .val (.ref b24), .unset] [(.int (Int32.ofNat (own_dn vb)))])) rfl (by rw [hml]; rfl) (argsL := [(.int (Int32.ofNat (own_dn vb)))]) (rest := []) (lenOf own_pd10 rfl) rfl (Nat.le_of_eq rfl) (hb hby at_176) rfl
      refine Gd.go (fun _ w_k => st34 _ w_k) ?_
      show Gd _ _ _ _ (T34.setTop (mkF m 179 #[.val (.int ln), .val (.int va), .val (.int vb), .val (.int vc), .val (.int vd), .val (.int (3 : Int32)), .val (.int (Int32.ofNat (own_dn va))), .val (.int (Int32.ofNat (own_dn vb))), .val (.int (Int32.ofNat (own_dn vc))), .val (.int (Int32.ofNat (own_dn vd))), .val (.ref b5), .val (.ref b24), .unset] [(.int (bI (own_ctl (own_dn vb) = true)))]))
      by_cases hc35 : own_ctl (own_dn vb) = true
      · refine Gd.go (fun _ w_k => XS.ifYes X34.here hx rfl (pc0 := 179) (pc' := 210) rfl (hb hby at_179) rfl ((if0 _ _).trans (feq (bI_ne hc35)).2) (by decide) (by decide) w_k) ?_
        show Gd _ _ _ _ (T34.setTop (mkF m 210 #[.val (.int ln), .val (.int va), .val (.int vb), .val (.int vc), .val (.int vd), .val (.int (3 : Int32)), .val (.int (Int32.ofNat (own_dn va))), .val (.int (Int32.ofNat (own_dn vb))), .val (.int (Int32.ofNat (own_dn vc))), .val (.int (Int32.ofNat (own_dn vd))), .val (.ref b5), .val (.ref b24), .unset] []))
        refine Gd.go (fun _ w_k => XS.iconst X34.here hx rfl (hb hby at_210) (XS.goto X34.here hx rfl (pc0 := 211) (pc' := 215) rfl (hb hby at_211) (by decide) (by decide) w_k)) ?_
        show Gd _ _ _ _ (T34.setTop (mkF m 215 #[.val (.int ln), .val (.int va), .val (.int vb), .val (.int vc), .val (.int vd), .val (.int (3 : Int32)), .val (.int (Int32.ofNat (own_dn va))), .val (.int (Int32.ofNat (own_dn vb))), .val (.int (Int32.ofNat (own_dn vc))), .val (.int (Int32.ofNat (own_dn vd))), .val (.ref b5), .val (.ref b24), .unset] [(.int (1 : Int32))]))
        have qe : (bI (own_any 3 (own_f (own_dn va) (own_dn vb) (own_dn vc) (own_dn vd)) = true)) = (1 : Int32) := bI_o (by simp [own_any, own_f, hc33, hc35])
        rw [qe] at J
        exact J ⟨T34, _⟩ ⟨X34, e34, xN31⟩
      · refine Gd.go (fun _ w_k => XS.ifNo X34.here hx rfl (hb hby at_179) rfl ((if0 _ _).trans (teq (bI_z hc35)).2) w_k) ?_
        show Gd _ _ _ _ (T34.setTop (mkF m 182 #[.val (.int ln), .val (.int va), .val (.int vb), .val (.int vc), .val (.int vd), .val (.int (3 : Int32)), .val (.int (Int32.ofNat (own_dn va))), .val (.int (Int32.ofNat (own_dn vb))), .val (.int (Int32.ofNat (own_dn vc))), .val (.int (Int32.ofNat (own_dn vd))), .val (.ref b5), .val (.ref b24), .unset] []))
        refine Gd.go (fun _ w_k => XS.iload X34.here hx rfl (hb hby at_182) rfl (XS.iconst X34.here hx rfl (hb hby at_184) (XS.icmpNo X34.here hx rfl (hb hby at_185) rfl (flt (by decide)).1 w_k))) ?_
        show Gd _ _ _ _ (T34.setTop (mkF m 188 #[.val (.int ln), .val (.int va), .val (.int vb), .val (.int vc), .val (.int vd), .val (.int (3 : Int32)), .val (.int (Int32.ofNat (own_dn va))), .val (.int (Int32.ofNat (own_dn vb))), .val (.int (Int32.ofNat (own_dn vc))), .val (.int (Int32.ofNat (own_dn vd))), .val (.ref b5), .val (.ref b24), .unset] []))
        refine Gd.go (fun _ w_k => XS.iload X34.here hx rfl (hb hby at_188) rfl w_k) ?_
        show Gd _ _ _ _ (T34.setTop (mkF m 190 #[.val (.int ln), .val (.int va), .val (.int vb), .val (.int vc), .val (.int vd), .val (.int (3 : Int32)), .val (.int (Int32.ofNat (own_dn va))), .val (.int (Int32.ofNat (own_dn vb))), .val (.int (Int32.ofNat (own_dn vc))), .val (.int (Int32.ofNat (own_dn vd))), .val (.ref b5), .val (.ref b24), .unset] [(.int (Int32.ofNat (own_dn vc)))]))
        obtain ⟨T36, X36, e36, st36⟩ := own_callSP X34 hx hZ (y := (⟨"com/example/yuletally/yuletally/ScreenLinesHoldsControlPinLaw", "ctl", "(C)Z"⟩ : MethodName)) hown (ow hw 52 rfl) (ow hw 53 rfl) (ow hw 3 rfl) (ow hw 54 rfl) (by decide) (W := 0) (own_c11 l Z a0 hw (own_dn vc) (own_dn_lt vc).1 T30.heap) rfl rfl e34 (by decide) (by decide) (g := (mkF m 190 #[.val (.int ln), .val (.int va), .val (.int vb), .val (.int vc), .val (.int vd), .val (.int (3 : Int32)), .val (.int (Int32.ofNat (own_dn va))), .val (.int (Int32.ofNat (own_dn vb))), .val (.int (Int32.ofNat (own_dn vc))), .val (.int (Int32.ofNat (own_dn vd))), .val (.ref b5), .val (.ref b24), .unset] [(.int (Int32.ofNat (own_dn vc)))])) rfl (by rw [hml]; rfl) (argsL := [(.int (Int32.ofNat (own_dn vc)))]) (rest := []) (lenOf own_pd10 rfl) rfl (Nat.le_of_eq rfl) (hb hby at_190) rfl
        refine Gd.go (fun _ w_k => st36 _ w_k) ?_
        show Gd _ _ _ _ (T36.setTop (mkF m 193 #[.val (.int ln), .val (.int va), .val (.int vb), .val (.int vc), .val (.int vd), .val (.int (3 : Int32)), .val (.int (Int32.ofNat (own_dn va))), .val (.int (Int32.ofNat (own_dn vb))), .val (.int (Int32.ofNat (own_dn vc))), .val (.int (Int32.ofNat (own_dn vd))), .val (.ref b5), .val (.ref b24), .unset] [(.int (bI (own_ctl (own_dn vc) = true)))]))
        by_cases hc37 : own_ctl (own_dn vc) = true
        · refine Gd.go (fun _ w_k => XS.ifYes X36.here hx rfl (pc0 := 193) (pc' := 210) rfl (hb hby at_193) rfl ((if0 _ _).trans (feq (bI_ne hc37)).2) (by decide) (by decide) w_k) ?_
          show Gd _ _ _ _ (T36.setTop (mkF m 210 #[.val (.int ln), .val (.int va), .val (.int vb), .val (.int vc), .val (.int vd), .val (.int (3 : Int32)), .val (.int (Int32.ofNat (own_dn va))), .val (.int (Int32.ofNat (own_dn vb))), .val (.int (Int32.ofNat (own_dn vc))), .val (.int (Int32.ofNat (own_dn vd))), .val (.ref b5), .val (.ref b24), .unset] []))
          refine Gd.go (fun _ w_k => XS.iconst X36.here hx rfl (hb hby at_210) (XS.goto X36.here hx rfl (pc0 := 211) (pc' := 215) rfl (hb hby at_211) (by decide) (by decide) w_k)) ?_
          show Gd _ _ _ _ (T36.setTop (mkF m 215 #[.val (.int ln), .val (.int va), .val (.int vb), .val (.int vc), .val (.int vd), .val (.int (3 : Int32)), .val (.int (Int32.ofNat (own_dn va))), .val (.int (Int32.ofNat (own_dn vb))), .val (.int (Int32.ofNat (own_dn vc))), .val (.int (Int32.ofNat (own_dn vd))), .val (.ref b5), .val (.ref b24), .unset] [(.int (1 : Int32))]))
          have qe : (bI (own_any 3 (own_f (own_dn va) (own_dn vb) (own_dn vc) (own_dn vd)) = true)) = (1 : Int32) := bI_o (by simp [own_any, own_f, hc33, hc35, hc37])
          rw [qe] at J
          exact J ⟨T36, _⟩ ⟨X36, e36, xN31⟩
        · refine Gd.go (fun _ w_k => XS.ifNo X36.here hx rfl (hb hby at_193) rfl ((if0 _ _).trans (teq (bI_z hc37)).2) w_k) ?_
          show Gd _ _ _ _ (T36.setTop (mkF m 196 #[.val (.int ln), .val (.int va), .val (.int vb), .val (.int vc), .val (.int vd), .val (.int (3 : Int32)), .val (.int (Int32.ofNat (own_dn va))), .val (.int (Int32.ofNat (own_dn vb))), .val (.int (Int32.ofNat (own_dn vc))), .val (.int (Int32.ofNat (own_dn vd))), .val (.ref b5), .val (.ref b24), .unset] []))
          refine Gd.go (fun _ w_k => XS.iload X36.here hx rfl (hb hby at_196) rfl (XS.iconst X36.here hx rfl (hb hby at_198) (XS.icmpYes X36.here hx rfl (pc0 := 199) (pc' := 214) rfl (hb hby at_199) rfl (tlt (by decide)).1 (by decide) (by decide) w_k))) ?_
          show Gd _ _ _ _ (T36.setTop (mkF m 214 #[.val (.int ln), .val (.int va), .val (.int vb), .val (.int vc), .val (.int vd), .val (.int (3 : Int32)), .val (.int (Int32.ofNat (own_dn va))), .val (.int (Int32.ofNat (own_dn vb))), .val (.int (Int32.ofNat (own_dn vc))), .val (.int (Int32.ofNat (own_dn vd))), .val (.ref b5), .val (.ref b24), .unset] []))
          refine Gd.go (fun _ w_k => XS.iconst X36.here hx rfl (hb hby at_214) w_k) ?_
          show Gd _ _ _ _ (T36.setTop (mkF m 215 #[.val (.int ln), .val (.int va), .val (.int vb), .val (.int vc), .val (.int vd), .val (.int (3 : Int32)), .val (.int (Int32.ofNat (own_dn va))), .val (.int (Int32.ofNat (own_dn vb))), .val (.int (Int32.ofNat (own_dn vc))), .val (.int (Int32.ofNat (own_dn vd))), .val (.ref b5), .val (.ref b24), .unset] [(.int (0 : Int32))]))
          have qe : (bI (own_any 3 (own_f (own_dn va) (own_dn vb) (own_dn vc) (own_dn vd)) = true)) = (0 : Int32) := bI_z (by simp [own_any, own_f, hc33, hc35, hc37])
          rw [qe] at J
          exact J ⟨T36, _⟩ ⟨X36, e36, xN31⟩
  obtain ⟨T_0, L_0⟩ := y
  obtain ⟨X_0, e_0, N_0⟩ := hy
  dsimp only at X_0 e_0 N_0 ⊢
  show Gd _ _ _ _ (T_0.setTop (mkF m 215 #[.val (.int ln), .val (.int va), .val (.int vb), .val (.int vc), .val (.int vd), .val (.int (3 : Int32)), .val (.int (Int32.ofNat (own_dn va))), .val (.int (Int32.ofNat (own_dn vb))), .val (.int (Int32.ofNat (own_dn vc))), .val (.int (Int32.ofNat (own_dn vd))), .val (.ref b5), .val (.ref b24), .unset] [(.int (bI (own_any 3 (own_f (own_dn va) (own_dn vb) (own_dn vc) (own_dn vd)) = true)))]))
  refine Gd.go (fun _ w_k => XS.istore X_0.here hx rfl (hb hby at_215) rfl (l' := #[.val (.int ln), .val (.int va), .val (.int vb), .val (.int vc), .val (.int vd), .val (.int (3 : Int32)), .val (.int (Int32.ofNat (own_dn va))), .val (.int (Int32.ofNat (own_dn vb))), .val (.int (Int32.ofNat (own_dn vc))), .val (.int (Int32.ofNat (own_dn vd))), .val (.ref b5), .val (.ref b24), .val (.int (bI (own_any 3 (own_f (own_dn va) (own_dn vb) (own_dn vc) (own_dn vd)) = true)))]) rfl (XS.aload X_0.here hx rfl (hb hby at_217) rfl rfl w_k)) ?_
  show Gd _ _ _ _ (T_0.setTop (mkF m 219 #[.val (.int ln), .val (.int va), .val (.int vb), .val (.int vc), .val (.int vd), .val (.int (3 : Int32)), .val (.int (Int32.ofNat (own_dn va))), .val (.int (Int32.ofNat (own_dn vb))), .val (.int (Int32.ofNat (own_dn vc))), .val (.int (Int32.ofNat (own_dn vd))), .val (.ref b5), .val (.ref b24), .val (.int (bI (own_any 3 (own_f (own_dn va) (own_dn vb) (own_dn vc) (own_dn vd)) = true)))] [(.ref b24)]))
  rcases hd with ⟨hall, HT⟩ | HT
  · obtain ⟨T38, X38, e38, st38⟩ := own_callSP X_0 hx hZ (y := (⟨"com/example/yuletally/yuletally/ScreenLines", "holdsControl", "(Ljava/lang/String;)Z"⟩ : MethodName)) hown (ow hw 27 rfl) (ow hw 28 rfl) (ow hw 29 rfl) (ow hw 30 rfl) (by decide) (W := 0) (own_c5_0 l Z a0 hw cs gv G T30.heap n0 O9 b24 W 3 (own_f (own_dn va) (own_dn vb) (own_dn vc) (own_dn vd)) (by decide) HT hall) rfl rfl e_0 (by decide) (by decide) (g := (mkF m 219 #[.val (.int ln), .val (.int va), .val (.int vb), .val (.int vc), .val (.int vd), .val (.int (3 : Int32)), .val (.int (Int32.ofNat (own_dn va))), .val (.int (Int32.ofNat (own_dn vb))), .val (.int (Int32.ofNat (own_dn vc))), .val (.int (Int32.ofNat (own_dn vd))), .val (.ref b5), .val (.ref b24), .val (.int (bI (own_any 3 (own_f (own_dn va) (own_dn vb) (own_dn vc) (own_dn vd)) = true)))] [(.ref b24)])) rfl (by rw [hml]; rfl) (argsL := [(.ref b24)]) (rest := []) (lenOf own_pd19 rfl) rfl (Nat.le_of_eq rfl) (hb hby at_219) rfl
    refine Gd.go (fun _ w_k => st38 _ w_k) ?_
    show Gd _ _ _ _ (T38.setTop (mkF m 222 #[.val (.int ln), .val (.int va), .val (.int vb), .val (.int vc), .val (.int vd), .val (.int (3 : Int32)), .val (.int (Int32.ofNat (own_dn va))), .val (.int (Int32.ofNat (own_dn vb))), .val (.int (Int32.ofNat (own_dn vc))), .val (.int (Int32.ofNat (own_dn vd))), .val (.ref b5), .val (.ref b24), .val (.int (bI (own_any 3 (own_f (own_dn va) (own_dn vb) (own_dn vc) (own_dn vd)) = true)))] [(.int (bI (own_any 3 (own_f (own_dn va) (own_dn vb) (own_dn vc) (own_dn vd)) = true)))]))
    refine Gd.go (fun _ w_k => XS.iload X38.here hx rfl (hb hby at_222) rfl (XS.icmpNo X38.here hx rfl (hb hby at_224) rfl (teq rfl).2 w_k)) ?_
    show Gd _ _ _ _ (T38.setTop (mkF m 227 #[.val (.int ln), .val (.int va), .val (.int vb), .val (.int vc), .val (.int vd), .val (.int (3 : Int32)), .val (.int (Int32.ofNat (own_dn va))), .val (.int (Int32.ofNat (own_dn vb))), .val (.int (Int32.ofNat (own_dn vc))), .val (.int (Int32.ofNat (own_dn vd))), .val (.ref b5), .val (.ref b24), .val (.int (bI (own_any 3 (own_f (own_dn va) (own_dn vb) (own_dn vc) (own_dn vd)) = true)))] []))
    refine Gd.go (fun _ w_k => XS.iconst X38.here hx rfl (hb hby at_227) (XS.goto X38.here hx rfl (pc0 := 228) (pc' := 232) rfl (hb hby at_228) (by decide) (by decide) w_k)) ?_
    show Gd _ _ _ _ (T38.setTop (mkF m 232 #[.val (.int ln), .val (.int va), .val (.int vb), .val (.int vc), .val (.int vd), .val (.int (3 : Int32)), .val (.int (Int32.ofNat (own_dn va))), .val (.int (Int32.ofNat (own_dn vb))), .val (.int (Int32.ofNat (own_dn vc))), .val (.int (Int32.ofNat (own_dn vd))), .val (.ref b5), .val (.ref b24), .val (.int (bI (own_any 3 (own_f (own_dn va) (own_dn vb) (own_dn vc) (own_dn vd)) = true)))] [(.int (1 : Int32))]))
    refine own_retN (t := .boolean) X38 hx hret hlk (by simp) (hb hby at_232) ?_ (by decide) (by decide)
    exact ⟨rfl, N_0⟩
  · obtain ⟨T39, X39, e39, st39⟩ := own_callSP X_0 hx hZ (y := (⟨"com/example/yuletally/yuletally/ScreenLines", "holdsControl", "(Ljava/lang/String;)Z"⟩ : MethodName)) hown (ow hw 27 rfl) (ow hw 28 rfl) (ow hw 29 rfl) (ow hw 30 rfl) (by decide) (W := 0) (own_c5_1 l Z a0 hw cs gv G T30.heap n0 O9 b24 W 3 (own_f (own_dn va) (own_dn vb) (own_dn vc) (own_dn vd)) (by decide) HT (fun i _ => (own_fby (own_dn_lt va).1 (own_dn_lt vb).1 (own_dn_lt vc).1 (own_dn_lt vd).1) i)) rfl rfl e_0 (by decide) (by decide) (g := (mkF m 219 #[.val (.int ln), .val (.int va), .val (.int vb), .val (.int vc), .val (.int vd), .val (.int (3 : Int32)), .val (.int (Int32.ofNat (own_dn va))), .val (.int (Int32.ofNat (own_dn vb))), .val (.int (Int32.ofNat (own_dn vc))), .val (.int (Int32.ofNat (own_dn vd))), .val (.ref b5), .val (.ref b24), .val (.int (bI (own_any 3 (own_f (own_dn va) (own_dn vb) (own_dn vc) (own_dn vd)) = true)))] [(.ref b24)])) rfl (by rw [hml]; rfl) (argsL := [(.ref b24)]) (rest := []) (lenOf own_pd19 rfl) rfl (Nat.le_of_eq rfl) (hb hby at_219) rfl
    refine Gd.go (fun _ w_k => st39 _ w_k) ?_
    show Gd _ _ _ _ (T39.setTop (mkF m 222 #[.val (.int ln), .val (.int va), .val (.int vb), .val (.int vc), .val (.int vd), .val (.int (3 : Int32)), .val (.int (Int32.ofNat (own_dn va))), .val (.int (Int32.ofNat (own_dn vb))), .val (.int (Int32.ofNat (own_dn vc))), .val (.int (Int32.ofNat (own_dn vd))), .val (.ref b5), .val (.ref b24), .val (.int (bI (own_any 3 (own_f (own_dn va) (own_dn vb) (own_dn vc) (own_dn vd)) = true)))] [(.int (bI (own_any 3 (own_f (own_dn va) (own_dn vb) (own_dn vc) (own_dn vd)) = true)))]))
    refine Gd.go (fun _ w_k => XS.iload X39.here hx rfl (hb hby at_222) rfl (XS.icmpNo X39.here hx rfl (hb hby at_224) rfl (teq rfl).2 w_k)) ?_
    show Gd _ _ _ _ (T39.setTop (mkF m 227 #[.val (.int ln), .val (.int va), .val (.int vb), .val (.int vc), .val (.int vd), .val (.int (3 : Int32)), .val (.int (Int32.ofNat (own_dn va))), .val (.int (Int32.ofNat (own_dn vb))), .val (.int (Int32.ofNat (own_dn vc))), .val (.int (Int32.ofNat (own_dn vd))), .val (.ref b5), .val (.ref b24), .val (.int (bI (own_any 3 (own_f (own_dn va) (own_dn vb) (own_dn vc) (own_dn vd)) = true)))] []))
    refine Gd.go (fun _ w_k => XS.iconst X39.here hx rfl (hb hby at_227) (XS.goto X39.here hx rfl (pc0 := 228) (pc' := 232) rfl (hb hby at_228) (by decide) (by decide) w_k)) ?_
    show Gd _ _ _ _ (T39.setTop (mkF m 232 #[.val (.int ln), .val (.int va), .val (.int vb), .val (.int vc), .val (.int vd), .val (.int (3 : Int32)), .val (.int (Int32.ofNat (own_dn va))), .val (.int (Int32.ofNat (own_dn vb))), .val (.int (Int32.ofNat (own_dn vc))), .val (.int (Int32.ofNat (own_dn vd))), .val (.ref b5), .val (.ref b24), .val (.int (bI (own_any 3 (own_f (own_dn va) (own_dn vb) (own_dn vc) (own_dn vd)) = true)))] [(.int (1 : Int32))]))
    refine own_retN (t := .boolean) X39 hx hret hlk (by simp) (hb hby at_232) ?_ (by decide) (by decide)
    exact ⟨rfl, N_0⟩
set_option maxRecDepth 65536 in
set_option maxHeartbeats 40000000 in
theorem own_law4 (l : Launch) (Z : State) (a0 : Array Value) (hw : ∀ d ∈ tables_1, d.before a0 Z = true) (ln va vb vc vd : Int32) (cs : Int32) (gv : Value) (G : own_G Z cs gv) (h0 : Heap) (n0 : Nat) (O0 : Old Z n0 h0) (Z0 : n0 ≤ h0.size) (hl : (ln &&& (2147483647 : Int32)) % (5 : Int32) = (4 : Int32)) :
    Con l Z x code maxLocals ret tables_1 room_1 24 1152 #[(.int ln), (.int va), (.int vb), (.int vc), (.int vd)] h0 (fun v h L => v = some (.int 1) ∧ Fr n0 L) := by
  refine Con.of own_pn25 ?_
  intro pg ev s_ m bl mt cd s₁ hx hby hml hown hnm hret hlk hZ X0 e0
  rw [ef_0]
  show Gd _ _ _ _ (s₁.setTop (mkF m 0 #[.val (.int ln), .val (.int va), .val (.int vb), .val (.int vc), .val (.int vd), .unset, .unset, .unset, .unset, .unset, .unset, .unset, .unset] []))
  have N0 := Fr.nil n0
  refine Gd.go (fun _ w_k => XS.iloadN X0.here hx rfl (hb hby at_0) rfl (X0.ldcInt hx hown (mvT hZ (ow hw 0 rfl)) (g := (mkF m 1 #[.val (.int ln), .val (.int va), .val (.int vb), .val (.int vc), .val (.int vd), .unset, .unset, .unset, .unset, .unset, .unset, .unset, .unset] [(.int ln)])) rfl (hb hby at_1) _ (XS.iand X0.here hx rfl (hb hby at_3) rfl (XS.iconst X0.here hx rfl (hb hby at_4) (iremM (g := (mkF m 5 #[.val (.int ln), .val (.int va), .val (.int vb), .val (.int vc), .val (.int vd), .unset, .unset, .unset, .unset, .unset, .unset, .unset, .unset] [(.int (5 : Int32)), (.int (ln &&& (2147483647 : Int32)))])) X0 hx rfl (hb hby at_5) rfl (by decide) w_k))))) ?_
  show Gd _ _ _ _ (s₁.setTop (mkF m 6 #[.val (.int ln), .val (.int va), .val (.int vb), .val (.int vc), .val (.int vd), .unset, .unset, .unset, .unset, .unset, .unset, .unset, .unset] [(.int ((ln &&& (2147483647 : Int32)) % (5 : Int32)))]))
  rw [hl]
  show Gd _ _ _ _ (s₁.setTop (mkF m 6 #[.val (.int ln), .val (.int va), .val (.int vb), .val (.int vc), .val (.int vd), .unset, .unset, .unset, .unset, .unset, .unset, .unset, .unset] [(.int (4 : Int32))]))
  refine Gd.go (fun _ w_k => XS.istore X0.here hx rfl (hb hby at_6) rfl (l' := #[.val (.int ln), .val (.int va), .val (.int vb), .val (.int vc), .val (.int vd), .val (.int (4 : Int32)), .unset, .unset, .unset, .unset, .unset, .unset, .unset]) rfl (XS.iloadN X0.here hx rfl (hb hby at_8) rfl w_k)) ?_
  show Gd _ _ _ _ (s₁.setTop (mkF m 9 #[.val (.int ln), .val (.int va), .val (.int vb), .val (.int vc), .val (.int vd), .val (.int (4 : Int32)), .unset, .unset, .unset, .unset, .unset, .unset, .unset] [(.int va)]))
  obtain ⟨T1, X1, e1, st1⟩ := own_callSP X0 hx hZ (y := (⟨"com/example/yuletally/yuletally/ScreenLinesHoldsControlPinLaw", "draw", "(I)C"⟩ : MethodName)) hown (ow hw 1 rfl) (ow hw 2 rfl) (ow hw 3 rfl) (ow hw 4 rfl) (by decide) (W := 0) (own_c1 l Z a0 hw va h0) rfl rfl e0 (by decide) (by decide) (g := (mkF m 9 #[.val (.int ln), .val (.int va), .val (.int vb), .val (.int vc), .val (.int vd), .val (.int (4 : Int32)), .unset, .unset, .unset, .unset, .unset, .unset, .unset] [(.int va)])) rfl (by rw [hml]; rfl) (argsL := [(.int va)]) (rest := []) (lenOf own_pd9 rfl) rfl (Nat.le_of_eq rfl) (hb hby at_9) rfl
  refine Gd.go (fun _ w_k => st1 _ (XS.istore X1.here hx rfl (hb hby at_12) rfl (l' := #[.val (.int ln), .val (.int va), .val (.int vb), .val (.int vc), .val (.int vd), .val (.int (4 : Int32)), .val (.int (Int32.ofNat (own_dn va))), .unset, .unset, .unset, .unset, .unset, .unset]) rfl (XS.iloadN X1.here hx rfl (hb hby at_14) rfl w_k))) ?_
  show Gd _ _ _ _ (T1.setTop (mkF m 15 #[.val (.int ln), .val (.int va), .val (.int vb), .val (.int vc), .val (.int vd), .val (.int (4 : Int32)), .val (.int (Int32.ofNat (own_dn va))), .unset, .unset, .unset, .unset, .unset, .unset] [(.int vb)]))
  obtain ⟨T2, X2, e2, st2⟩ := own_callSP X1 hx hZ (y := (⟨"com/example/yuletally/yuletally/ScreenLinesHoldsControlPinLaw", "draw", "(I)C"⟩ : MethodName)) hown (ow hw 1 rfl) (ow hw 2 rfl) (ow hw 3 rfl) (ow hw 4 rfl) (by decide) (W := 0) (own_c1 l Z a0 hw vb h0) rfl rfl e1 (by decide) (by decide) (g := (mkF m 15 #[.val (.int ln), .val (.int va), .val (.int vb), .val (.int vc), .val (.int vd), .val (.int (4 : Int32)), .val (.int (Int32.ofNat (own_dn va))), .unset, .unset, .unset, .unset, .unset, .unset] [(.int vb)])) rfl (by rw [hml]; rfl) (argsL := [(.int vb)]) (rest := []) (lenOf own_pd9 rfl) rfl (Nat.le_of_eq rfl) (hb hby at_15) rfl
  refine Gd.go (fun _ w_k => st2 _ (XS.istore X2.here hx rfl (hb hby at_18) rfl (l' := #[.val (.int ln), .val (.int va), .val (.int vb), .val (.int vc), .val (.int vd), .val (.int (4 : Int32)), .val (.int (Int32.ofNat (own_dn va))), .val (.int (Int32.ofNat (own_dn vb))), .unset, .unset, .unset, .unset, .unset]) rfl (XS.iloadN X2.here hx rfl (hb hby at_20) rfl w_k))) ?_
  show Gd _ _ _ _ (T2.setTop (mkF m 21 #[.val (.int ln), .val (.int va), .val (.int vb), .val (.int vc), .val (.int vd), .val (.int (4 : Int32)), .val (.int (Int32.ofNat (own_dn va))), .val (.int (Int32.ofNat (own_dn vb))), .unset, .unset, .unset, .unset, .unset] [(.int vc)]))
  obtain ⟨T3, X3, e3, st3⟩ := own_callSP X2 hx hZ (y := (⟨"com/example/yuletally/yuletally/ScreenLinesHoldsControlPinLaw", "draw", "(I)C"⟩ : MethodName)) hown (ow hw 1 rfl) (ow hw 2 rfl) (ow hw 3 rfl) (ow hw 4 rfl) (by decide) (W := 0) (own_c1 l Z a0 hw vc h0) rfl rfl e2 (by decide) (by decide) (g := (mkF m 21 #[.val (.int ln), .val (.int va), .val (.int vb), .val (.int vc), .val (.int vd), .val (.int (4 : Int32)), .val (.int (Int32.ofNat (own_dn va))), .val (.int (Int32.ofNat (own_dn vb))), .unset, .unset, .unset, .unset, .unset] [(.int vc)])) rfl (by rw [hml]; rfl) (argsL := [(.int vc)]) (rest := []) (lenOf own_pd9 rfl) rfl (Nat.le_of_eq rfl) (hb hby at_21) rfl
  refine Gd.go (fun _ w_k => st3 _ (XS.istore X3.here hx rfl (hb hby at_24) rfl (l' := #[.val (.int ln), .val (.int va), .val (.int vb), .val (.int vc), .val (.int vd), .val (.int (4 : Int32)), .val (.int (Int32.ofNat (own_dn va))), .val (.int (Int32.ofNat (own_dn vb))), .val (.int (Int32.ofNat (own_dn vc))), .unset, .unset, .unset, .unset]) rfl (XS.iload X3.here hx rfl (hb hby at_26) rfl w_k))) ?_
  show Gd _ _ _ _ (T3.setTop (mkF m 28 #[.val (.int ln), .val (.int va), .val (.int vb), .val (.int vc), .val (.int vd), .val (.int (4 : Int32)), .val (.int (Int32.ofNat (own_dn va))), .val (.int (Int32.ofNat (own_dn vb))), .val (.int (Int32.ofNat (own_dn vc))), .unset, .unset, .unset, .unset] [(.int vd)]))
  obtain ⟨T4, X4, e4, st4⟩ := own_callSP X3 hx hZ (y := (⟨"com/example/yuletally/yuletally/ScreenLinesHoldsControlPinLaw", "draw", "(I)C"⟩ : MethodName)) hown (ow hw 1 rfl) (ow hw 2 rfl) (ow hw 3 rfl) (ow hw 4 rfl) (by decide) (W := 0) (own_c1 l Z a0 hw vd h0) rfl rfl e3 (by decide) (by decide) (g := (mkF m 28 #[.val (.int ln), .val (.int va), .val (.int vb), .val (.int vc), .val (.int vd), .val (.int (4 : Int32)), .val (.int (Int32.ofNat (own_dn va))), .val (.int (Int32.ofNat (own_dn vb))), .val (.int (Int32.ofNat (own_dn vc))), .unset, .unset, .unset, .unset] [(.int vd)])) rfl (by rw [hml]; rfl) (argsL := [(.int vd)]) (rest := []) (lenOf own_pd9 rfl) rfl (Nat.le_of_eq rfl) (hb hby at_28) rfl
  refine Gd.go (fun _ w_k => st4 _ (XS.istore X4.here hx rfl (hb hby at_31) rfl (l' := #[.val (.int ln), .val (.int va), .val (.int vb), .val (.int vc), .val (.int vd), .val (.int (4 : Int32)), .val (.int (Int32.ofNat (own_dn va))), .val (.int (Int32.ofNat (own_dn vb))), .val (.int (Int32.ofNat (own_dn vc))), .val (.int (Int32.ofNat (own_dn vd))), .unset, .unset, .unset]) rfl (XS.iload X4.here hx rfl (hb hby at_33) rfl (XS.ifYes X4.here hx rfl (pc0 := 35) (pc' := 46) rfl (hb hby at_35) rfl ((if0 _ _).trans (feq (by decide)).2) (by decide) (by decide) w_k)))) ?_
  show Gd _ _ _ _ (T4.setTop (mkF m 46 #[.val (.int ln), .val (.int va), .val (.int vb), .val (.int vc), .val (.int vd), .val (.int (4 : Int32)), .val (.int (Int32.ofNat (own_dn va))), .val (.int (Int32.ofNat (own_dn vb))), .val (.int (Int32.ofNat (own_dn vc))), .val (.int (Int32.ofNat (own_dn vd))), .unset, .unset, .unset] []))
  refine Gd.go (fun _ w_k => XS.iload X4.here hx rfl (hb hby at_46) rfl (XS.iconst X4.here hx rfl (hb hby at_48) (XS.icmpYes X4.here hx rfl (pc0 := 49) (pc' := 65) rfl (hb hby at_49) rfl (feq (by decide)).2 (by decide) (by decide) w_k))) ?_
  show Gd _ _ _ _ (T4.setTop (mkF m 65 #[.val (.int ln), .val (.int va), .val (.int vb), .val (.int vc), .val (.int vd), .val (.int (4 : Int32)), .val (.int (Int32.ofNat (own_dn va))), .val (.int (Int32.ofNat (own_dn vb))), .val (.int (Int32.ofNat (own_dn vc))), .val (.int (Int32.ofNat (own_dn vd))), .unset, .unset, .unset] []))
  refine Gd.go (fun _ w_k => XS.iload X4.here hx rfl (hb hby at_65) rfl (XS.iconst X4.here hx rfl (hb hby at_67) (XS.icmpYes X4.here hx rfl (pc0 := 68) (pc' := 89) rfl (hb hby at_68) rfl (feq (by decide)).2 (by decide) (by decide) w_k))) ?_
  show Gd _ _ _ _ (T4.setTop (mkF m 89 #[.val (.int ln), .val (.int va), .val (.int vb), .val (.int vc), .val (.int vd), .val (.int (4 : Int32)), .val (.int (Int32.ofNat (own_dn va))), .val (.int (Int32.ofNat (own_dn vb))), .val (.int (Int32.ofNat (own_dn vc))), .val (.int (Int32.ofNat (own_dn vd))), .unset, .unset, .unset] []))
  refine Gd.go (fun _ w_k => XS.iload X4.here hx rfl (hb hby at_89) rfl (XS.iconst X4.here hx rfl (hb hby at_91) (XS.icmpYes X4.here hx rfl (pc0 := 92) (pc' := 118) rfl (hb hby at_92) rfl (feq (by decide)).2 (by decide) (by decide) w_k))) ?_
  show Gd _ _ _ _ (T4.setTop (mkF m 118 #[.val (.int ln), .val (.int va), .val (.int vb), .val (.int vc), .val (.int vd), .val (.int (4 : Int32)), .val (.int (Int32.ofNat (own_dn va))), .val (.int (Int32.ofNat (own_dn vb))), .val (.int (Int32.ofNat (own_dn vc))), .val (.int (Int32.ofNat (own_dn vd))), .unset, .unset, .unset] []))
  refine Gd.go (fun _ w_k => XS.iconst X4.here hx rfl (hb hby at_118) w_k) ?_
  show Gd _ _ _ _ (T4.setTop (mkF m 119 #[.val (.int ln), .val (.int va), .val (.int vb), .val (.int vc), .val (.int vd), .val (.int (4 : Int32)), .val (.int (Int32.ofNat (own_dn va))), .val (.int (Int32.ofNat (own_dn vb))), .val (.int (Int32.ofNat (own_dn vc))), .val (.int (Int32.ofNat (own_dn vd))), .unset, .unset, .unset] [(.int (4 : Int32))]))
  obtain ⟨T5, h5, k5, X5, e5, E5, A5, st5⟩ := newP X4 hx hZ (ow hw 5 rfl) e4 (g := (mkF m 119 #[.val (.int ln), .val (.int va), .val (.int vb), .val (.int vc), .val (.int vd), .val (.int (4 : Int32)), .val (.int (Int32.ofNat (own_dn va))), .val (.int (Int32.ofNat (own_dn vb))), .val (.int (Int32.ofNat (own_dn vc))), .val (.int (Int32.ofNat (own_dn vd))), .unset, .unset, .unset] [(.int (4 : Int32))])) rfl (hb hby at_119) rfl (by decide) (cap := 4) (by decide) (by decide) (by decide) (by decide)
  obtain ⟨b5, g5⟩ : ∃ z, z = h0.size := ⟨_, rfl⟩
  rw [← g5] at A5 st5
  have n0_b5 : n0 ≤ b5 := Nat.le_trans Z0 (Nat.le_of_eq g5.symm)
  have xO6 := Old.ext O0 E5
  have xZs7 := Nat.le_trans Z0 E5.1
  have xF8 : ArF Z h5 b5 .char 4 (fun _ => (.int (0 : Int32))) := own_new (h := h0) A5 (by decide)
  refine Gd.go (fun _ w_k => st5 _ (XS.dup X5.here hx rfl (hb hby at_121) rfl rfl (XS.iconst X5.here hx rfl (hb hby at_122) (XS.iload X5.here hx rfl (hb hby at_123) rfl w_k)))) ?_
  show Gd _ _ _ _ (T5.setTop (mkF m 125 #[.val (.int ln), .val (.int va), .val (.int vb), .val (.int vc), .val (.int vd), .val (.int (4 : Int32)), .val (.int (Int32.ofNat (own_dn va))), .val (.int (Int32.ofNat (own_dn vb))), .val (.int (Int32.ofNat (own_dn vc))), .val (.int (Int32.ofNat (own_dn vd))), .unset, .unset, .unset] [(.int (Int32.ofNat (own_dn va))), (.int (0 : Int32)), (.ref b5), (.ref b5)]))
  obtain ⟨T9, h9, X9, e9, W9, st9⟩ := own_stC X5 hx hZ e5 xF8 (j := (0 : Int32)) (by decide) (by decide) (g := (mkF m 125 #[.val (.int ln), .val (.int va), .val (.int vb), .val (.int vc), .val (.int vd), .val (.int (4 : Int32)), .val (.int (Int32.ofNat (own_dn va))), .val (.int (Int32.ofNat (own_dn vb))), .val (.int (Int32.ofNat (own_dn vc))), .val (.int (Int32.ofNat (own_dn vd))), .unset, .unset, .unset] [(.int (Int32.ofNat (own_dn va))), (.int (0 : Int32)), (.ref b5), (.ref b5)])) rfl rfl (hb hby at_125)
  refine Gd.go (fun _ w_k => st9 _ w_k) ?_
  have xF10 := xF8.set W9
  have xN11 := Fr.snoc X9 N0 n0_b5
  have xO12 := Old.wr xO6 W9 n0_b5
  have xZs13 := Nat.le_trans xZs7 (Keep.of_wr W9).1
  show Gd _ _ _ _ (T9.setTop (mkF m 126 #[.val (.int ln), .val (.int va), .val (.int vb), .val (.int vc), .val (.int vd), .val (.int (4 : Int32)), .val (.int (Int32.ofNat (own_dn va))), .val (.int (Int32.ofNat (own_dn vb))), .val (.int (Int32.ofNat (own_dn vc))), .val (.int (Int32.ofNat (own_dn vd))), .unset, .unset, .unset] [(.ref b5)]))
  refine Gd.go (fun _ w_k => XS.dup X9.here hx rfl (hb hby at_126) rfl rfl (XS.iconst X9.here hx rfl (hb hby at_127) (XS.iload X9.here hx rfl (hb hby at_128) rfl w_k))) ?_
  show Gd _ _ _ _ (T9.setTop (mkF m 130 #[.val (.int ln), .val (.int va), .val (.int vb), .val (.int vc), .val (.int vd), .val (.int (4 : Int32)), .val (.int (Int32.ofNat (own_dn va))), .val (.int (Int32.ofNat (own_dn vb))), .val (.int (Int32.ofNat (own_dn vc))), .val (.int (Int32.ofNat (own_dn vd))), .unset, .unset, .unset] [(.int (Int32.ofNat (own_dn vb))), (.int (1 : Int32)), (.ref b5), (.ref b5)]))
  obtain ⟨T14, h14, X14, e14, W14, st14⟩ := own_stC X9 hx hZ e9 xF10 (j := (1 : Int32)) (by decide) (by decide) (g := (mkF m 130 #[.val (.int ln), .val (.int va), .val (.int vb), .val (.int vc), .val (.int vd), .val (.int (4 : Int32)), .val (.int (Int32.ofNat (own_dn va))), .val (.int (Int32.ofNat (own_dn vb))), .val (.int (Int32.ofNat (own_dn vc))), .val (.int (Int32.ofNat (own_dn vd))), .unset, .unset, .unset] [(.int (Int32.ofNat (own_dn vb))), (.int (1 : Int32)), (.ref b5), (.ref b5)])) rfl rfl (hb hby at_130)
  refine Gd.go (fun _ w_k => st14 _ w_k) ?_
  have xF15 := xF10.set W14
  have xN16 := Fr.snoc X14 xN11 n0_b5
  have xO17 := Old.wr xO12 W14 n0_b5
  have xZs18 := Nat.le_trans xZs13 (Keep.of_wr W14).1
  show Gd _ _ _ _ (T14.setTop (mkF m 131 #[.val (.int ln), .val (.int va), .val (.int vb), .val (.int vc), .val (.int vd), .val (.int (4 : Int32)), .val (.int (Int32.ofNat (own_dn va))), .val (.int (Int32.ofNat (own_dn vb))), .val (.int (Int32.ofNat (own_dn vc))), .val (.int (Int32.ofNat (own_dn vd))), .unset, .unset, .unset] [(.ref b5)]))
  refine Gd.go (fun _ w_k => XS.dup X14.here hx rfl (hb hby at_131) rfl rfl (XS.iconst X14.here hx rfl (hb hby at_132) (XS.iload X14.here hx rfl (hb hby at_133) rfl w_k))) ?_
  show Gd _ _ _ _ (T14.setTop (mkF m 135 #[.val (.int ln), .val (.int va), .val (.int vb), .val (.int vc), .val (.int vd), .val (.int (4 : Int32)), .val (.int (Int32.ofNat (own_dn va))), .val (.int (Int32.ofNat (own_dn vb))), .val (.int (Int32.ofNat (own_dn vc))), .val (.int (Int32.ofNat (own_dn vd))), .unset, .unset, .unset] [(.int (Int32.ofNat (own_dn vc))), (.int (2 : Int32)), (.ref b5), (.ref b5)]))
  obtain ⟨T19, h19, X19, e19, W19, st19⟩ := own_stC X14 hx hZ e14 xF15 (j := (2 : Int32)) (by decide) (by decide) (g := (mkF m 135 #[.val (.int ln), .val (.int va), .val (.int vb), .val (.int vc), .val (.int vd), .val (.int (4 : Int32)), .val (.int (Int32.ofNat (own_dn va))), .val (.int (Int32.ofNat (own_dn vb))), .val (.int (Int32.ofNat (own_dn vc))), .val (.int (Int32.ofNat (own_dn vd))), .unset, .unset, .unset] [(.int (Int32.ofNat (own_dn vc))), (.int (2 : Int32)), (.ref b5), (.ref b5)])) rfl rfl (hb hby at_135)
  refine Gd.go (fun _ w_k => st19 _ w_k) ?_
  have xF20 := xF15.set W19
  have xN21 := Fr.snoc X19 xN16 n0_b5
  have xO22 := Old.wr xO17 W19 n0_b5
  have xZs23 := Nat.le_trans xZs18 (Keep.of_wr W19).1
  show Gd _ _ _ _ (T19.setTop (mkF m 136 #[.val (.int ln), .val (.int va), .val (.int vb), .val (.int vc), .val (.int vd), .val (.int (4 : Int32)), .val (.int (Int32.ofNat (own_dn va))), .val (.int (Int32.ofNat (own_dn vb))), .val (.int (Int32.ofNat (own_dn vc))), .val (.int (Int32.ofNat (own_dn vd))), .unset, .unset, .unset] [(.ref b5)]))
  refine Gd.go (fun _ w_k => XS.dup X19.here hx rfl (hb hby at_136) rfl rfl (XS.iconst X19.here hx rfl (hb hby at_137) (XS.iload X19.here hx rfl (hb hby at_138) rfl w_k))) ?_
  show Gd _ _ _ _ (T19.setTop (mkF m 140 #[.val (.int ln), .val (.int va), .val (.int vb), .val (.int vc), .val (.int vd), .val (.int (4 : Int32)), .val (.int (Int32.ofNat (own_dn va))), .val (.int (Int32.ofNat (own_dn vb))), .val (.int (Int32.ofNat (own_dn vc))), .val (.int (Int32.ofNat (own_dn vd))), .unset, .unset, .unset] [(.int (Int32.ofNat (own_dn vd))), (.int (3 : Int32)), (.ref b5), (.ref b5)]))
  obtain ⟨T24, h24, X24, e24, W24, st24⟩ := own_stC X19 hx hZ e19 xF20 (j := (3 : Int32)) (by decide) (by decide) (g := (mkF m 140 #[.val (.int ln), .val (.int va), .val (.int vb), .val (.int vc), .val (.int vd), .val (.int (4 : Int32)), .val (.int (Int32.ofNat (own_dn va))), .val (.int (Int32.ofNat (own_dn vb))), .val (.int (Int32.ofNat (own_dn vc))), .val (.int (Int32.ofNat (own_dn vd))), .unset, .unset, .unset] [(.int (Int32.ofNat (own_dn vd))), (.int (3 : Int32)), (.ref b5), (.ref b5)])) rfl rfl (hb hby at_140)
  refine Gd.go (fun _ w_k => st24 _ w_k) ?_
  have xF25 := xF20.set W24
  have xN26 := Fr.snoc X24 xN21 n0_b5
  have xO27 := Old.wr xO22 W24 n0_b5
  have xZs28 := Nat.le_trans xZs23 (Keep.of_wr W24).1
  show Gd _ _ _ _ (T24.setTop (mkF m 141 #[.val (.int ln), .val (.int va), .val (.int vb), .val (.int vc), .val (.int vd), .val (.int (4 : Int32)), .val (.int (Int32.ofNat (own_dn va))), .val (.int (Int32.ofNat (own_dn vb))), .val (.int (Int32.ofNat (own_dn vc))), .val (.int (Int32.ofNat (own_dn vd))), .unset, .unset, .unset] [(.ref b5)]))
  refine Gd.go (fun _ w_k => XS.astore X24.here hx rfl (hb hby at_141) rfl rfl (l' := #[.val (.int ln), .val (.int va), .val (.int vb), .val (.int vc), .val (.int vd), .val (.int (4 : Int32)), .val (.int (Int32.ofNat (own_dn va))), .val (.int (Int32.ofNat (own_dn vb))), .val (.int (Int32.ofNat (own_dn vc))), .val (.int (Int32.ofNat (own_dn vd))), .val (.ref b5), .unset, .unset]) rfl w_k) ?_
  show Gd _ _ _ _ (T24.setTop (mkF m 143 #[.val (.int ln), .val (.int va), .val (.int vb), .val (.int vc), .val (.int vd), .val (.int (4 : Int32)), .val (.int (Int32.ofNat (own_dn va))), .val (.int (Int32.ofNat (own_dn vb))), .val (.int (Int32.ofNat (own_dn vc))), .val (.int (Int32.ofNat (own_dn vd))), .val (.ref b5), .unset, .unset] []))
  obtain ⟨T29, h29, X29, e29, E29, A29, D29, -, st29⟩ := newO X24 hx hZ hown (ow hw 6 rfl) (ow hw 7 rfl) (ow hw 8 rfl) e24 (g := (mkF m 143 #[.val (.int ln), .val (.int va), .val (.int vb), .val (.int vc), .val (.int vd), .val (.int (4 : Int32)), .val (.int (Int32.ofNat (own_dn va))), .val (.int (Int32.ofNat (own_dn vb))), .val (.int (Int32.ofNat (own_dn vc))), .val (.int (Int32.ofNat (own_dn vd))), .val (.ref b5), .unset, .unset] [])) rfl (hb hby at_143) (by decide) (by decide)
  obtain ⟨b29, g29⟩ : ∃ z, z = h24.size := ⟨_, rfl⟩
  rw [← g29] at A29 D29 st29
  have ne_b5_b29 : b5 ≠ b29 := fun q => Nat.lt_irrefl _ (Nat.lt_of_lt_of_le xF25.lt (Nat.le_of_eq (q.trans g29).symm))
  have n0_b29 : n0 ≤ b29 := Nat.le_trans xZs28 (Nat.le_of_eq g29.symm)
  have xF30 := xF25.ext E29
  have xO31 := Old.ext xO27 E29
  have xZs32 := Nat.le_trans xZs28 E29.1
  have xF33 : Fld Z h29 b29 "java/lang/String" "value" "[B" .null := D29 (Or.inr (ow hw 21 rfl)) (ty := (.array .byte)) (by decide)
  have xF34 : Fld Z h29 b29 "java/lang/String" "coder" "B" (.int (0 : Int32)) := D29 (Or.inr (ow hw 22 rfl)) (ty := .byte) (by decide)
  refine Gd.go (fun _ w_k => st29 _ (XS.dup X29.here hx rfl (hb hby at_146) rfl rfl (XS.aload X29.here hx rfl (hb hby at_147) rfl rfl w_k))) ?_
  show Gd _ _ _ _ (T29.setTop (mkF m 149 #[.val (.int ln), .val (.int va), .val (.int vb), .val (.int vc), .val (.int vd), .val (.int (4 : Int32)), .val (.int (Int32.ofNat (own_dn va))), .val (.int (Int32.ofNat (own_dn vb))), .val (.int (Int32.ofNat (own_dn vc))), .val (.int (Int32.ofNat (own_dn vd))), .val (.ref b5), .unset, .unset] [(.ref b5), (.ref b29), (.ref b29)]))
  have cA : ArF Z h29 b5 .char 4 (own_chs (own_f (own_dn va) (own_dn vb) (own_dn vc) (own_dn vd))) := xF30.congr (fun i hi => (match i, hi with
    | 0, _ => congrArg Value.int (own_i2c (own_dn_lt va).1)
    | 1, _ => congrArg Value.int (own_i2c (own_dn_lt vb).1)
    | 2, _ => congrArg Value.int (own_i2c (own_dn_lt vc).1)
    | 3, _ => congrArg Value.int (own_i2c (own_dn_lt vd).1)
    | (q + 4), h => absurd h (by omega)))
  obtain ⟨v35, T35, L35, X35, hQ35, st35⟩ := own_callI X29 hx hZ (y := (⟨"java/lang/String", "<init>", "([C)V"⟩ : MethodName)) rfl hown (ow hw 9 rfl) (ow hw 10 rfl) (ow hw 8 rfl) (ow hw 11 rfl) (by decide) (b := b29) (W := 1) (own_c2 l Z a0 hw cs gv G h29 n0 xO31 xZs32 b29 n0_b29 A29 xF33 xF34 b5 4 (by decide) (own_f (own_dn va) (own_dn vb) (own_dn vc) (own_dn vd)) (own_fby (own_dn_lt va).1 (own_dn_lt vb).1 (own_dn_lt vc).1 (own_dn_lt vd).1) cA (by decide) ne_b5_b29) rfl rfl e29 (by decide) (by decide) (g := (mkF m 149 #[.val (.int ln), .val (.int va), .val (.int vb), .val (.int vc), .val (.int vd), .val (.int (4 : Int32)), .val (.int (Int32.ofNat (own_dn va))), .val (.int (Int32.ofNat (own_dn vb))), .val (.int (Int32.ofNat (own_dn vc))), .val (.int (Int32.ofNat (own_dn vd))), .val (.ref b5), .unset, .unset] [(.ref b5), (.ref b29), (.ref b29)])) rfl (by rw [hml]; rfl) (argsL := [(.ref b5)]) (rest := [(.ref b29)]) (lenOf own_pd18 rfl) rfl (Nat.le_of_eq rfl) (hb hby at_149) rfl (by decide) (by decide)
  obtain ⟨rfl, ⟨W, hd⟩, O9, N9⟩ := hQ35
  refine Gd.go (fun _ w_k => st35 _ w_k) ?_
  show Gd _ _ _ _ (T35.setTop (mkF m 152 #[.val (.int ln), .val (.int va), .val (.int vb), .val (.int vc), .val (.int vd), .val (.int (4 : Int32)), .val (.int (Int32.ofNat (own_dn va))), .val (.int (Int32.ofNat (own_dn vb))), .val (.int (Int32.ofNat (own_dn vc))), .val (.int (Int32.ofNat (own_dn vd))), .val (.ref b5), .unset, .unset] [(.ref b29)]))
  have xN36 := Fr.app xN26 N9
  refine Gd.go (fun _ w_k => XS.astore X35.here hx rfl (hb hby at_152) rfl rfl (l' := #[.val (.int ln), .val (.int va), .val (.int vb), .val (.int vc), .val (.int vd), .val (.int (4 : Int32)), .val (.int (Int32.ofNat (own_dn va))), .val (.int (Int32.ofNat (own_dn vb))), .val (.int (Int32.ofNat (own_dn vc))), .val (.int (Int32.ofNat (own_dn vd))), .val (.ref b5), .val (.ref b29), .unset]) rfl w_k) ?_
  show Gd _ _ _ _ (T35.setTop (mkF m 154 #[.val (.int ln), .val (.int va), .val (.int vb), .val (.int vc), .val (.int vd), .val (.int (4 : Int32)), .val (.int (Int32.ofNat (own_dn va))), .val (.int (Int32.ofNat (own_dn vb))), .val (.int (Int32.ofNat (own_dn vc))), .val (.int (Int32.ofNat (own_dn vd))), .val (.ref b5), .val (.ref b29), .unset] []))
  refine Gd.viaA (A := fun y : State × List Loc => Stand pg l ev room_1 s_ m #[(.int ln), (.int va), (.int vb), (.int vc), (.int vd)] bl mt cd y.1 y.2 4 20 ∧ y.1.heap = T35.heap ∧ Fr n0 y.2) (S' := fun y => y.1.setTop (mkF m 215 #[.val (.int ln), .val (.int va), .val (.int vb), .val (.int vc), .val (.int vd), .val (.int (4 : Int32)), .val (.int (Int32.ofNat (own_dn va))), .val (.int (Int32.ofNat (own_dn vb))), .val (.int (Int32.ofNat (own_dn vc))), .val (.int (Int32.ofNat (own_dn vd))), .val (.ref b5), .val (.ref b29), .unset] [(.int (bI (own_any 4 (own_f (own_dn va) (own_dn vb) (own_dn vc) (own_dn vd)) = true)))])) (fun J => ?_) (fun y hy => ?_)
  · refine Gd.go (fun _ w_k => XS.iload X35.here hx rfl (hb hby at_154) rfl (XS.iconst X35.here hx rfl (hb hby at_156) (XS.icmpNo X35.here hx rfl (hb hby at_157) rfl (flt (by decide)).1 w_k))) ?_
    show Gd _ _ _ _ (T35.setTop (mkF m 160 #[.val (.int ln), .val (.int va), .val (.int vb), .val (.int vc), .val (.int vd), .val (.int (4 : Int32)), .val (.int (Int32.ofNat (own_dn va))), .val (.int (Int32.ofNat (own_dn vb))), .val (.int (Int32.ofNat (own_dn vc))), .val (.int (Int32.ofNat (own_dn vd))), .val (.ref b5), .val (.ref b29), .unset] []))
    refine Gd.go (fun _ w_k => XS.iload X35.here hx rfl (hb hby at_160) rfl w_k) ?_
    show Gd _ _ _ _ (T35.setTop (mkF m 162 #[.val (.int ln), .val (.int va), .val (.int vb), .val (.int vc), .val (.int vd), .val (.int (4 : Int32)), .val (.int (Int32.ofNat (own_dn va))), .val (.int (Int32.ofNat (own_dn vb))), .val (.int (Int32.ofNat (own_dn vc))), .val (.int (Int32.ofNat (own_dn vd))), .val (.ref b5), .val (.ref b29), .unset] [(.int (Int32.ofNat (own_dn va)))]))
    obtain ⟨T37, X37, e37, st37⟩ := own_callSP X35 hx hZ (y := (⟨"com/example/yuletally/yuletally/ScreenLinesHoldsControlPinLaw", "ctl", "(C)Z"⟩ : MethodName)) hown (ow hw 52 rfl) (ow hw 53 rfl) (ow hw 3 rfl) (ow hw 54 rfl) (by decide) (W := 0) (own_c11 l Z a0 hw (own_dn va) (own_dn_lt va).1 T35.heap) rfl rfl rfl (by decide) (by decide) (g := (mkF m 162 #[.val (.int ln), .val (.int va), .val (.int vb), .val (.int vc), .val (.int vd), .val (.int (4 : Int32)), .val (.int (Int32.ofNat (own_dn va))), .val (.int (Int32.ofNat (own_dn vb))), .val (.int (Int32.ofNat (own_dn vc))), .val (.int (Int32.ofNat (own_dn vd))), .val (.ref b5), .val (.ref b29), .unset] [(.int (Int32.ofNat (own_dn va)))])) rfl (by rw [hml]; rfl) (argsL := [(.int (Int32.ofNat (own_dn va)))]) (rest := []) (lenOf own_pd10 rfl) rfl (Nat.le_of_eq rfl) (hb hby at_162) rfl
    refine Gd.go (fun _ w_k => st37 _ w_k) ?_
    show Gd _ _ _ _ (T37.setTop (mkF m 165 #[.val (.int ln), .val (.int va), .val (.int vb), .val (.int vc), .val (.int vd), .val (.int (4 : Int32)), .val (.int (Int32.ofNat (own_dn va))), .val (.int (Int32.ofNat (own_dn vb))), .val (.int (Int32.ofNat (own_dn vc))), .val (.int (Int32.ofNat (own_dn vd))), .val (.ref b5), .val (.ref b29), .unset] [(.int (bI (own_ctl (own_dn va) = true)))]))
    by_cases hc38 : own_ctl (own_dn va) = true
    · refine Gd.go (fun _ w_k => XS.ifYes X37.here hx rfl (pc0 := 165) (pc' := 210) rfl (hb hby at_165) rfl ((if0 _ _).trans (feq (bI_ne hc38)).2) (by decide) (by decide) w_k) ?_
      show Gd _ _ _ _ (T37.setTop (mkF m 210 #[.val (.int ln), .val (.int va), .val (.int vb), .val (.int vc), .val (.int vd), .val (.int (4 : Int32)), .val (.int (Int32.ofNat (own_dn va))), .val (.int (Int32.ofNat (own_dn vb))), .val (.int (Int32.ofNat (own_dn vc))), .val (.int (Int32.ofNat (own_dn vd))), .val (.ref b5), .val (.ref b29), .unset] []))
      refine Gd.go (fun _ w_k => XS.iconst X37.here hx rfl (hb hby at_210) (XS.goto X37.here hx rfl (pc0 := 211) (pc' := 215) rfl (hb hby at_211) (by decide) (by decide) w_k)) ?_
      show Gd _ _ _ _ (T37.setTop (mkF m 215 #[.val (.int ln), .val (.int va), .val (.int vb), .val (.int vc), .val (.int vd), .val (.int (4 : Int32)), .val (.int (Int32.ofNat (own_dn va))), .val (.int (Int32.ofNat (own_dn vb))), .val (.int (Int32.ofNat (own_dn vc))), .val (.int (Int32.ofNat (own_dn vd))), .val (.ref b5), .val (.ref b29), .unset] [(.int (1 : Int32))]))
      have qe : (bI (own_any 4 (own_f (own_dn va) (own_dn vb) (own_dn vc) (own_dn vd)) = true)) = (1 : Int32) := bI_o (by simp [own_any, own_f, hc38])
      rw [qe] at J
      exact J ⟨T37, _⟩ ⟨X37, e37, xN36⟩
    · refine Gd.go (fun _ w_k => XS.ifNo X37.here hx rfl (hb hby at_165) rfl ((if0 _ _).trans (teq (bI_z hc38)).2) w_k) ?_
      show Gd _ _ _ _ (T37.setTop (mkF m 168 #[.val (.int ln), .val (.int va), .val (.int vb), .val (.int vc), .val (.int vd), .val (.int (4 : Int32)), .val (.int (Int32.ofNat (own_dn va))), .val (.int (Int32.ofNat (own_dn vb))), .val (.int (Int32.ofNat (own_dn vc))), .val (.int (Int32.ofNat (own_dn vd))), .val (.ref b5), .val (.ref b29), .unset] []))
      refine Gd.go (fun _ w_k => XS.iload X37.here hx rfl (hb hby at_168) rfl (XS.iconst X37.here hx rfl (hb hby at_170) (XS.icmpNo X37.here hx rfl (hb hby at_171) rfl (flt (by decide)).1 w_k))) ?_
      show Gd _ _ _ _ (T37.setTop (mkF m 174 #[.val (.int ln), .val (.int va), .val (.int vb), .val (.int vc), .val (.int vd), .val (.int (4 : Int32)), .val (.int (Int32.ofNat (own_dn va))), .val (.int (Int32.ofNat (own_dn vb))), .val (.int (Int32.ofNat (own_dn vc))), .val (.int (Int32.ofNat (own_dn vd))), .val (.ref b5), .val (.ref b29), .unset] []))
      refine Gd.go (fun _ w_k => XS.iload X37.here hx rfl (hb hby at_174) rfl w_k) ?_
      show Gd _ _ _ _ (T37.setTop (mkF m 176 #[.val (.int ln), .val (.int va), .val (.int vb), .val (.int vc), .val (.int vd), .val (.int (4 : Int32)), .val (.int (Int32.ofNat (own_dn va))), .val (.int (Int32.ofNat (own_dn vb))), .val (.int (Int32.ofNat (own_dn vc))), .val (.int (Int32.ofNat (own_dn vd))), .val (.ref b5), .val (.ref b29), .unset] [(.int (Int32.ofNat (own_dn vb)))]))
      obtain ⟨T39, X39, e39, st39⟩ := own_callSP X37 hx hZ (y := (⟨"com/example/yuletally/yuletally/ScreenLinesHoldsControlPinLaw", "ctl", "(C)Z"⟩ : MethodName)) hown (ow hw 52 rfl) (ow hw 53 rfl) (ow hw 3 rfl) (ow hw 54 rfl) (by decide) (W := 0) (own_c11 l Z a0 hw (own_dn vb) (own_dn_lt vb).1 T35.heap) rfl rfl e37 (by decide) (by decide) (g := (mkF m 176 #[.val (.int ln), .val (.int va), .val (.int vb), .val (.int vc), .val (.int vd), .val (.int (4 : Int32)), .val (.int (Int32.ofNat (own_dn va))), .val (.int (Int32.ofNat (own_dn vb))), .val (.int (Int32.ofNat (own_dn vc))), .val (.int (Int32.ofNat (own_dn vd))), .val (.ref b5), .val (.ref b29), .unset] [(.int (Int32.ofNat (own_dn vb)))])) rfl (by rw [hml]; rfl) (argsL := [(.int (Int32.ofNat (own_dn vb)))]) (rest := []) (lenOf own_pd10 rfl) rfl (Nat.le_of_eq rfl) (hb hby at_176) rfl
      refine Gd.go (fun _ w_k => st39 _ w_k) ?_
      show Gd _ _ _ _ (T39.setTop (mkF m 179 #[.val (.int ln), .val (.int va), .val (.int vb), .val (.int vc), .val (.int vd), .val (.int (4 : Int32)), .val (.int (Int32.ofNat (own_dn va))), .val (.int (Int32.ofNat (own_dn vb))), .val (.int (Int32.ofNat (own_dn vc))), .val (.int (Int32.ofNat (own_dn vd))), .val (.ref b5), .val (.ref b29), .unset] [(.int (bI (own_ctl (own_dn vb) = true)))]))
      by_cases hc40 : own_ctl (own_dn vb) = true
      · refine Gd.go (fun _ w_k => XS.ifYes X39.here hx rfl (pc0 := 179) (pc' := 210) rfl (hb hby at_179) rfl ((if0 _ _).trans (feq (bI_ne hc40)).2) (by decide) (by decide) w_k) ?_
        show Gd _ _ _ _ (T39.setTop (mkF m 210 #[.val (.int ln), .val (.int va), .val (.int vb), .val (.int vc), .val (.int vd), .val (.int (4 : Int32)), .val (.int (Int32.ofNat (own_dn va))), .val (.int (Int32.ofNat (own_dn vb))), .val (.int (Int32.ofNat (own_dn vc))), .val (.int (Int32.ofNat (own_dn vd))), .val (.ref b5), .val (.ref b29), .unset] []))
        refine Gd.go (fun _ w_k => XS.iconst X39.here hx rfl (hb hby at_210) (XS.goto X39.here hx rfl (pc0 := 211) (pc' := 215) rfl (hb hby at_211) (by decide) (by decide) w_k)) ?_
        show Gd _ _ _ _ (T39.setTop (mkF m 215 #[.val (.int ln), .val (.int va), .val (.int vb), .val (.int vc), .val (.int vd), .val (.int (4 : Int32)), .val (.int (Int32.ofNat (own_dn va))), .val (.int (Int32.ofNat (own_dn vb))), .val (.int (Int32.ofNat (own_dn vc))), .val (.int (Int32.ofNat (own_dn vd))), .val (.ref b5), .val (.ref b29), .unset] [(.int (1 : Int32))]))
        have qe : (bI (own_any 4 (own_f (own_dn va) (own_dn vb) (own_dn vc) (own_dn vd)) = true)) = (1 : Int32) := bI_o (by simp [own_any, own_f, hc38, hc40])
        rw [qe] at J
        exact J ⟨T39, _⟩ ⟨X39, e39, xN36⟩
      · refine Gd.go (fun _ w_k => XS.ifNo X39.here hx rfl (hb hby at_179) rfl ((if0 _ _).trans (teq (bI_z hc40)).2) w_k) ?_
        show Gd _ _ _ _ (T39.setTop (mkF m 182 #[.val (.int ln), .val (.int va), .val (.int vb), .val (.int vc), .val (.int vd), .val (.int (4 : Int32)), .val (.int (Int32.ofNat (own_dn va))), .val (.int (Int32.ofNat (own_dn vb))), .val (.int (Int32.ofNat (own_dn vc))), .val (.int (Int32.ofNat (own_dn vd))), .val (.ref b5), .val (.ref b29), .unset] []))
        refine Gd.go (fun _ w_k => XS.iload X39.here hx rfl (hb hby at_182) rfl (XS.iconst X39.here hx rfl (hb hby at_184) (XS.icmpNo X39.here hx rfl (hb hby at_185) rfl (flt (by decide)).1 w_k))) ?_
        show Gd _ _ _ _ (T39.setTop (mkF m 188 #[.val (.int ln), .val (.int va), .val (.int vb), .val (.int vc), .val (.int vd), .val (.int (4 : Int32)), .val (.int (Int32.ofNat (own_dn va))), .val (.int (Int32.ofNat (own_dn vb))), .val (.int (Int32.ofNat (own_dn vc))), .val (.int (Int32.ofNat (own_dn vd))), .val (.ref b5), .val (.ref b29), .unset] []))
        refine Gd.go (fun _ w_k => XS.iload X39.here hx rfl (hb hby at_188) rfl w_k) ?_
        show Gd _ _ _ _ (T39.setTop (mkF m 190 #[.val (.int ln), .val (.int va), .val (.int vb), .val (.int vc), .val (.int vd), .val (.int (4 : Int32)), .val (.int (Int32.ofNat (own_dn va))), .val (.int (Int32.ofNat (own_dn vb))), .val (.int (Int32.ofNat (own_dn vc))), .val (.int (Int32.ofNat (own_dn vd))), .val (.ref b5), .val (.ref b29), .unset] [(.int (Int32.ofNat (own_dn vc)))]))
        obtain ⟨T41, X41, e41, st41⟩ := own_callSP X39 hx hZ (y := (⟨"com/example/yuletally/yuletally/ScreenLinesHoldsControlPinLaw", "ctl", "(C)Z"⟩ : MethodName)) hown (ow hw 52 rfl) (ow hw 53 rfl) (ow hw 3 rfl) (ow hw 54 rfl) (by decide) (W := 0) (own_c11 l Z a0 hw (own_dn vc) (own_dn_lt vc).1 T35.heap) rfl rfl e39 (by decide) (by decide) (g := (mkF m 190 #[.val (.int ln), .val (.int va), .val (.int vb), .val (.int vc), .val (.int vd), .val (.int (4 : Int32)), .val (.int (Int32.ofNat (own_dn va))), .val (.int (Int32.ofNat (own_dn vb))), .val (.int (Int32.ofNat (own_dn vc))), .val (.int (Int32.ofNat (own_dn vd))), .val (.ref b5), .val (.ref b29), .unset] [(.int (Int32.ofNat (own_dn vc)))])) rfl (by rw [hml]; rfl) (argsL := [(.int (Int32.ofNat (own_dn vc)))]) (rest := []) (lenOf own_pd10 rfl) rfl (Nat.le_of_eq rfl) (hb hby at_190) rfl
        refine Gd.go (fun _ w_k => st41 _ w_k) ?_
        show Gd _ _ _ _ (T41.setTop (mkF m 193 #[.val (.int ln), .val (.int va), .val (.int vb), .val (.int vc), .val (.int vd), .val (.int (4 : Int32)), .val (.int (Int32.ofNat (own_dn va))), .val (.int (Int32.ofNat (own_dn vb))), .val (.int (Int32.ofNat (own_dn vc))), .val (.int (Int32.ofNat (own_dn vd))), .val (.ref b5), .val (.ref b29), .unset] [(.int (bI (own_ctl (own_dn vc) = true)))]))
        by_cases hc42 : own_ctl (own_dn vc) = true
        · refine Gd.go (fun _ w_k => XS.ifYes X41.here hx rfl (pc0 := 193) (pc' := 210) rfl (hb hby at_193) rfl ((if0 _ _).trans (feq (bI_ne hc42)).2) (by decide) (by decide) w_k) ?_
          show Gd _ _ _ _ (T41.setTop (mkF m 210 #[.val (.int ln), .val (.int va), .val (.int vb), .val (.int vc), .val (.int vd), .val (.int (4 : Int32)), .val (.int (Int32.ofNat (own_dn va))), .val (.int (Int32.ofNat (own_dn vb))), .val (.int (Int32.ofNat (own_dn vc))), .val (.int (Int32.ofNat (own_dn vd))), .val (.ref b5), .val (.ref b29), .unset] []))
          refine Gd.go (fun _ w_k => XS.iconst X41.here hx rfl (hb hby at_210) (XS.goto X41.here hx rfl (pc0 := 211) (pc' := 215) rfl (hb hby at_211) (by decide) (by decide) w_k)) ?_
          show Gd _ _ _ _ (T41.setTop (mkF m 215 #[.val (.int ln), .val (.int va), .val (.int vb), .val (.int vc), .val (.int vd), .val (.int (4 : Int32)), .val (.int (Int32.ofNat (own_dn va))), .val (.int (Int32.ofNat (own_dn vb))), .val (.int (Int32.ofNat (own_dn vc))), .val (.int (Int32.ofNat (own_dn vd))), .val (.ref b5), .val (.ref b29), .unset] [(.int (1 : Int32))]))
          have qe : (bI (own_any 4 (own_f (own_dn va) (own_dn vb) (own_dn vc) (own_dn vd)) = true)) = (1 : Int32) := bI_o (by simp [own_any, own_f, hc38, hc40, hc42])
          rw [qe] at J
          exact J ⟨T41, _⟩ ⟨X41, e41, xN36⟩
        · refine Gd.go (fun _ w_k => XS.ifNo X41.here hx rfl (hb hby at_193) rfl ((if0 _ _).trans (teq (bI_z hc42)).2) w_k) ?_
          show Gd _ _ _ _ (T41.setTop (mkF m 196 #[.val (.int ln), .val (.int va), .val (.int vb), .val (.int vc), .val (.int vd), .val (.int (4 : Int32)), .val (.int (Int32.ofNat (own_dn va))), .val (.int (Int32.ofNat (own_dn vb))), .val (.int (Int32.ofNat (own_dn vc))), .val (.int (Int32.ofNat (own_dn vd))), .val (.ref b5), .val (.ref b29), .unset] []))
          refine Gd.go (fun _ w_k => XS.iload X41.here hx rfl (hb hby at_196) rfl (XS.iconst X41.here hx rfl (hb hby at_198) (XS.icmpNo X41.here hx rfl (hb hby at_199) rfl (flt (by decide)).1 w_k))) ?_
          show Gd _ _ _ _ (T41.setTop (mkF m 202 #[.val (.int ln), .val (.int va), .val (.int vb), .val (.int vc), .val (.int vd), .val (.int (4 : Int32)), .val (.int (Int32.ofNat (own_dn va))), .val (.int (Int32.ofNat (own_dn vb))), .val (.int (Int32.ofNat (own_dn vc))), .val (.int (Int32.ofNat (own_dn vd))), .val (.ref b5), .val (.ref b29), .unset] []))
          refine Gd.go (fun _ w_k => XS.iload X41.here hx rfl (hb hby at_202) rfl w_k) ?_
          show Gd _ _ _ _ (T41.setTop (mkF m 204 #[.val (.int ln), .val (.int va), .val (.int vb), .val (.int vc), .val (.int vd), .val (.int (4 : Int32)), .val (.int (Int32.ofNat (own_dn va))), .val (.int (Int32.ofNat (own_dn vb))), .val (.int (Int32.ofNat (own_dn vc))), .val (.int (Int32.ofNat (own_dn vd))), .val (.ref b5), .val (.ref b29), .unset] [(.int (Int32.ofNat (own_dn vd)))]))
          obtain ⟨T43, X43, e43, st43⟩ := own_callSP X41 hx hZ (y := (⟨"com/example/yuletally/yuletally/ScreenLinesHoldsControlPinLaw", "ctl", "(C)Z"⟩ : MethodName)) hown (ow hw 52 rfl) (ow hw 53 rfl) (ow hw 3 rfl) (ow hw 54 rfl) (by decide) (W := 0) (own_c11 l Z a0 hw (own_dn vd) (own_dn_lt vd).1 T35.heap) rfl rfl e41 (by decide) (by decide) (g := (mkF m 204 #[.val (.int ln), .val (.int va), .val (.int vb), .val (.int vc), .val (.int vd), .val (.int (4 : Int32)), .val (.int (Int32.ofNat (own_dn va))), .val (.int (Int32.ofNat (own_dn vb))), .val (.int (Int32.ofNat (own_dn vc))), .val (.int (Int32.ofNat (own_dn vd))), .val (.ref b5), .val (.ref b29), .unset] [(.int (Int32.ofNat (own_dn vd)))])) rfl (by rw [hml]; rfl) (argsL := [(.int (Int32.ofNat (own_dn vd)))]) (rest := []) (lenOf own_pd10 rfl) rfl (Nat.le_of_eq rfl) (hb hby at_204) rfl
          refine Gd.go (fun _ w_k => st43 _ w_k) ?_
          show Gd _ _ _ _ (T43.setTop (mkF m 207 #[.val (.int ln), .val (.int va), .val (.int vb), .val (.int vc), .val (.int vd), .val (.int (4 : Int32)), .val (.int (Int32.ofNat (own_dn va))), .val (.int (Int32.ofNat (own_dn vb))), .val (.int (Int32.ofNat (own_dn vc))), .val (.int (Int32.ofNat (own_dn vd))), .val (.ref b5), .val (.ref b29), .unset] [(.int (bI (own_ctl (own_dn vd) = true)))]))
          by_cases hc44 : own_ctl (own_dn vd) = true
          · refine Gd.go (fun _ w_k => XS.ifNo X43.here hx rfl (hb hby at_207) rfl ((if0 _ _).trans (feq (bI_ne hc44)).1) w_k) ?_
            show Gd _ _ _ _ (T43.setTop (mkF m 210 #[.val (.int ln), .val (.int va), .val (.int vb), .val (.int vc), .val (.int vd), .val (.int (4 : Int32)), .val (.int (Int32.ofNat (own_dn va))), .val (.int (Int32.ofNat (own_dn vb))), .val (.int (Int32.ofNat (own_dn vc))), .val (.int (Int32.ofNat (own_dn vd))), .val (.ref b5), .val (.ref b29), .unset] []))
            refine Gd.go (fun _ w_k => XS.iconst X43.here hx rfl (hb hby at_210) (XS.goto X43.here hx rfl (pc0 := 211) (pc' := 215) rfl (hb hby at_211) (by decide) (by decide) w_k)) ?_
            show Gd _ _ _ _ (T43.setTop (mkF m 215 #[.val (.int ln), .val (.int va), .val (.int vb), .val (.int vc), .val (.int vd), .val (.int (4 : Int32)), .val (.int (Int32.ofNat (own_dn va))), .val (.int (Int32.ofNat (own_dn vb))), .val (.int (Int32.ofNat (own_dn vc))), .val (.int (Int32.ofNat (own_dn vd))), .val (.ref b5), .val (.ref b29), .unset] [(.int (1 : Int32))]))
            have qe : (bI (own_any 4 (own_f (own_dn va) (own_dn vb) (own_dn vc) (own_dn vd)) = true)) = (1 : Int32) := bI_o (by simp [own_any, own_f, hc38, hc40, hc42, hc44])
            rw [qe] at J
            exact J ⟨T43, _⟩ ⟨X43, e43, xN36⟩
          · refine Gd.go (fun _ w_k => XS.ifYes X43.here hx rfl (pc0 := 207) (pc' := 214) rfl (hb hby at_207) rfl ((if0 _ _).trans (teq (bI_z hc44)).1) (by decide) (by decide) w_k) ?_
            show Gd _ _ _ _ (T43.setTop (mkF m 214 #[.val (.int ln), .val (.int va), .val (.int vb), .val (.int vc), .val (.int vd), .val (.int (4 : Int32)), .val (.int (Int32.ofNat (own_dn va))), .val (.int (Int32.ofNat (own_dn vb))), .val (.int (Int32.ofNat (own_dn vc))), .val (.int (Int32.ofNat (own_dn vd))), .val (.ref b5), .val (.ref b29), .unset] []))
            refine Gd.go (fun _ w_k => XS.iconst X43.here hx rfl (hb hby at_214) w_k) ?_
            show Gd _ _ _ _ (T43.setTop (mkF m 215 #[.val (.int ln), .val (.int va), .val (.int vb), .val (.int vc), .val (.int vd), .val (.int (4 : Int32)), .val (.int (Int32.ofNat (own_dn va))), .val (.int (Int32.ofNat (own_dn vb))), .val (.int (Int32.ofNat (own_dn vc))), .val (.int (Int32.ofNat (own_dn vd))), .val (.ref b5), .val (.ref b29), .unset] [(.int (0 : Int32))]))
            have qe : (bI (own_any 4 (own_f (own_dn va) (own_dn vb) (own_dn vc) (own_dn vd)) = true)) = (0 : Int32) := bI_z (by simp [own_any, own_f, hc38, hc40, hc42, hc44])
            rw [qe] at J
            exact J ⟨T43, _⟩ ⟨X43, e43, xN36⟩
  obtain ⟨T_0, L_0⟩ := y
  obtain ⟨X_0, e_0, N_0⟩ := hy
  dsimp only at X_0 e_0 N_0 ⊢
  show Gd _ _ _ _ (T_0.setTop (mkF m 215 #[.val (.int ln), .val (.int va), .val (.int vb), .val (.int vc), .val (.int vd), .val (.int (4 : Int32)), .val (.int (Int32.ofNat (own_dn va))), .val (.int (Int32.ofNat (own_dn vb))), .val (.int (Int32.ofNat (own_dn vc))), .val (.int (Int32.ofNat (own_dn vd))), .val (.ref b5), .val (.ref b29), .unset] [(.int (bI (own_any 4 (own_f (own_dn va) (own_dn vb) (own_dn vc) (own_dn vd)) = true)))]))
  refine Gd.go (fun _ w_k => XS.istore X_0.here hx rfl (hb hby at_215) rfl (l' := #[.val (.int ln), .val (.int va), .val (.int vb), .val (.int vc), .val (.int vd), .val (.int (4 : Int32)), .val (.int (Int32.ofNat (own_dn va))), .val (.int (Int32.ofNat (own_dn vb))), .val (.int (Int32.ofNat (own_dn vc))), .val (.int (Int32.ofNat (own_dn vd))), .val (.ref b5), .val (.ref b29), .val (.int (bI (own_any 4 (own_f (own_dn va) (own_dn vb) (own_dn vc) (own_dn vd)) = true)))]) rfl (XS.aload X_0.here hx rfl (hb hby at_217) rfl rfl w_k)) ?_
  show Gd _ _ _ _ (T_0.setTop (mkF m 219 #[.val (.int ln), .val (.int va), .val (.int vb), .val (.int vc), .val (.int vd), .val (.int (4 : Int32)), .val (.int (Int32.ofNat (own_dn va))), .val (.int (Int32.ofNat (own_dn vb))), .val (.int (Int32.ofNat (own_dn vc))), .val (.int (Int32.ofNat (own_dn vd))), .val (.ref b5), .val (.ref b29), .val (.int (bI (own_any 4 (own_f (own_dn va) (own_dn vb) (own_dn vc) (own_dn vd)) = true)))] [(.ref b29)]))
  rcases hd with ⟨hall, HT⟩ | HT
  · obtain ⟨T45, X45, e45, st45⟩ := own_callSP X_0 hx hZ (y := (⟨"com/example/yuletally/yuletally/ScreenLines", "holdsControl", "(Ljava/lang/String;)Z"⟩ : MethodName)) hown (ow hw 27 rfl) (ow hw 28 rfl) (ow hw 29 rfl) (ow hw 30 rfl) (by decide) (W := 0) (own_c5_0 l Z a0 hw cs gv G T35.heap n0 O9 b29 W 4 (own_f (own_dn va) (own_dn vb) (own_dn vc) (own_dn vd)) (by decide) HT hall) rfl rfl e_0 (by decide) (by decide) (g := (mkF m 219 #[.val (.int ln), .val (.int va), .val (.int vb), .val (.int vc), .val (.int vd), .val (.int (4 : Int32)), .val (.int (Int32.ofNat (own_dn va))), .val (.int (Int32.ofNat (own_dn vb))), .val (.int (Int32.ofNat (own_dn vc))), .val (.int (Int32.ofNat (own_dn vd))), .val (.ref b5), .val (.ref b29), .val (.int (bI (own_any 4 (own_f (own_dn va) (own_dn vb) (own_dn vc) (own_dn vd)) = true)))] [(.ref b29)])) rfl (by rw [hml]; rfl) (argsL := [(.ref b29)]) (rest := []) (lenOf own_pd19 rfl) rfl (Nat.le_of_eq rfl) (hb hby at_219) rfl
    refine Gd.go (fun _ w_k => st45 _ w_k) ?_
    show Gd _ _ _ _ (T45.setTop (mkF m 222 #[.val (.int ln), .val (.int va), .val (.int vb), .val (.int vc), .val (.int vd), .val (.int (4 : Int32)), .val (.int (Int32.ofNat (own_dn va))), .val (.int (Int32.ofNat (own_dn vb))), .val (.int (Int32.ofNat (own_dn vc))), .val (.int (Int32.ofNat (own_dn vd))), .val (.ref b5), .val (.ref b29), .val (.int (bI (own_any 4 (own_f (own_dn va) (own_dn vb) (own_dn vc) (own_dn vd)) = true)))] [(.int (bI (own_any 4 (own_f (own_dn va) (own_dn vb) (own_dn vc) (own_dn vd)) = true)))]))
    refine Gd.go (fun _ w_k => XS.iload X45.here hx rfl (hb hby at_222) rfl (XS.icmpNo X45.here hx rfl (hb hby at_224) rfl (teq rfl).2 w_k)) ?_
    show Gd _ _ _ _ (T45.setTop (mkF m 227 #[.val (.int ln), .val (.int va), .val (.int vb), .val (.int vc), .val (.int vd), .val (.int (4 : Int32)), .val (.int (Int32.ofNat (own_dn va))), .val (.int (Int32.ofNat (own_dn vb))), .val (.int (Int32.ofNat (own_dn vc))), .val (.int (Int32.ofNat (own_dn vd))), .val (.ref b5), .val (.ref b29), .val (.int (bI (own_any 4 (own_f (own_dn va) (own_dn vb) (own_dn vc) (own_dn vd)) = true)))] []))
    refine Gd.go (fun _ w_k => XS.iconst X45.here hx rfl (hb hby at_227) (XS.goto X45.here hx rfl (pc0 := 228) (pc' := 232) rfl (hb hby at_228) (by decide) (by decide) w_k)) ?_
    show Gd _ _ _ _ (T45.setTop (mkF m 232 #[.val (.int ln), .val (.int va), .val (.int vb), .val (.int vc), .val (.int vd), .val (.int (4 : Int32)), .val (.int (Int32.ofNat (own_dn va))), .val (.int (Int32.ofNat (own_dn vb))), .val (.int (Int32.ofNat (own_dn vc))), .val (.int (Int32.ofNat (own_dn vd))), .val (.ref b5), .val (.ref b29), .val (.int (bI (own_any 4 (own_f (own_dn va) (own_dn vb) (own_dn vc) (own_dn vd)) = true)))] [(.int (1 : Int32))]))
    refine own_retN (t := .boolean) X45 hx hret hlk (by simp) (hb hby at_232) ?_ (by decide) (by decide)
    exact ⟨rfl, N_0⟩
  · obtain ⟨T46, X46, e46, st46⟩ := own_callSP X_0 hx hZ (y := (⟨"com/example/yuletally/yuletally/ScreenLines", "holdsControl", "(Ljava/lang/String;)Z"⟩ : MethodName)) hown (ow hw 27 rfl) (ow hw 28 rfl) (ow hw 29 rfl) (ow hw 30 rfl) (by decide) (W := 0) (own_c5_1 l Z a0 hw cs gv G T35.heap n0 O9 b29 W 4 (own_f (own_dn va) (own_dn vb) (own_dn vc) (own_dn vd)) (by decide) HT (fun i _ => (own_fby (own_dn_lt va).1 (own_dn_lt vb).1 (own_dn_lt vc).1 (own_dn_lt vd).1) i)) rfl rfl e_0 (by decide) (by decide) (g := (mkF m 219 #[.val (.int ln), .val (.int va), .val (.int vb), .val (.int vc), .val (.int vd), .val (.int (4 : Int32)), .val (.int (Int32.ofNat (own_dn va))), .val (.int (Int32.ofNat (own_dn vb))), .val (.int (Int32.ofNat (own_dn vc))), .val (.int (Int32.ofNat (own_dn vd))), .val (.ref b5), .val (.ref b29), .val (.int (bI (own_any 4 (own_f (own_dn va) (own_dn vb) (own_dn vc) (own_dn vd)) = true)))] [(.ref b29)])) rfl (by rw [hml]; rfl) (argsL := [(.ref b29)]) (rest := []) (lenOf own_pd19 rfl) rfl (Nat.le_of_eq rfl) (hb hby at_219) rfl
    refine Gd.go (fun _ w_k => st46 _ w_k) ?_
    show Gd _ _ _ _ (T46.setTop (mkF m 222 #[.val (.int ln), .val (.int va), .val (.int vb), .val (.int vc), .val (.int vd), .val (.int (4 : Int32)), .val (.int (Int32.ofNat (own_dn va))), .val (.int (Int32.ofNat (own_dn vb))), .val (.int (Int32.ofNat (own_dn vc))), .val (.int (Int32.ofNat (own_dn vd))), .val (.ref b5), .val (.ref b29), .val (.int (bI (own_any 4 (own_f (own_dn va) (own_dn vb) (own_dn vc) (own_dn vd)) = true)))] [(.int (bI (own_any 4 (own_f (own_dn va) (own_dn vb) (own_dn vc) (own_dn vd)) = true)))]))
    refine Gd.go (fun _ w_k => XS.iload X46.here hx rfl (hb hby at_222) rfl (XS.icmpNo X46.here hx rfl (hb hby at_224) rfl (teq rfl).2 w_k)) ?_
    show Gd _ _ _ _ (T46.setTop (mkF m 227 #[.val (.int ln), .val (.int va), .val (.int vb), .val (.int vc), .val (.int vd), .val (.int (4 : Int32)), .val (.int (Int32.ofNat (own_dn va))), .val (.int (Int32.ofNat (own_dn vb))), .val (.int (Int32.ofNat (own_dn vc))), .val (.int (Int32.ofNat (own_dn vd))), .val (.ref b5), .val (.ref b29), .val (.int (bI (own_any 4 (own_f (own_dn va) (own_dn vb) (own_dn vc) (own_dn vd)) = true)))] []))
    refine Gd.go (fun _ w_k => XS.iconst X46.here hx rfl (hb hby at_227) (XS.goto X46.here hx rfl (pc0 := 228) (pc' := 232) rfl (hb hby at_228) (by decide) (by decide) w_k)) ?_
    show Gd _ _ _ _ (T46.setTop (mkF m 232 #[.val (.int ln), .val (.int va), .val (.int vb), .val (.int vc), .val (.int vd), .val (.int (4 : Int32)), .val (.int (Int32.ofNat (own_dn va))), .val (.int (Int32.ofNat (own_dn vb))), .val (.int (Int32.ofNat (own_dn vc))), .val (.int (Int32.ofNat (own_dn vd))), .val (.ref b5), .val (.ref b29), .val (.int (bI (own_any 4 (own_f (own_dn va) (own_dn vb) (own_dn vc) (own_dn vd)) = true)))] [(.int (1 : Int32))]))
    refine own_retN (t := .boolean) X46 hx hret hlk (by simp) (hb hby at_232) ?_ (by decide) (by decide)
    exact ⟨rfl, N_0⟩
theorem own_wS {Z : State} {a0 : Array Value} (hw : ∀ d ∈ tables_1, d.before a0 Z = true) : ∀ a ∈ Bundle.stringAtoms, a.before a0 Z = true := by
  intro a ha
  simp only [Bundle.stringAtoms, Bundle.sN, List.mem_cons, List.not_mem_nil, or_false] at ha
  rcases ha with rfl | rfl | rfl | rfl | rfl | rfl | rfl
  · exact ow hw 8 rfl
  · exact ow hw 7 rfl
  · exact ow hw 20 rfl
  · exact ow hw 21 rfl
  · exact ow hw 22 rfl
  · exact ow hw 23 rfl
  · exact ow hw 24 rfl
theorem own_EL {Z : State} {a0 : Array Value} (hw : ∀ d ∈ tables_1, d.before a0 Z = true) : EW Z a0 consts_1 := by
  intro q hq
  have e : q = ("java/lang/String", 7) := by simpa [consts_1] using hq
  subst e
  exact ⟨"", ow hw 19 rfl, by simp⟩
theorem own_since (s : State) : s.Since s.vm s.heap.size := State.WarmedH.since (State.WarmedH.refl s) _
theorem own_nval {Z : State} {h : Heap} {t a b : Addr} {O n d : String} (F : Fld Z h t O n d .null) (G : Fld Z h a O n d (.ref b)) : t ≠ a := by
  rintro rfl
  obtain ⟨c1, cf1, k1, i1, f1, a1, a2, a3, a4, a5, a6, a7⟩ := F
  obtain ⟨c2, cf2, k2, i2, f2, b1, b2, b3, b4, b5, b6, b7⟩ := G
  cases a1.symm.trans b1
  cases a2.symm.trans b2
  cases a7.symm.trans b7
theorem own_neA {Z : State} {h : Heap} {t b : Addr} {C : String} {k n : Nat} {a0 : Array Value} {ty : FieldType} {f : Nat → Value} (E : Exa Z h t C) (wi : (Jvm.Cond.instantiable C k).before a0 Z = true) (A : ArF Z h b ty n f) : b ≠ t := by
  obtain ⟨c, Ar, -⟩ := A; exact (ne_arr E wi Ar).symm
theorem d3_8 : decode jdk_42_method_149_code 8 = .ok (.aload_n 0, 1) := by decide +kernel
theorem d3_9 : decode jdk_42_method_149_code 9 = .ok (.ldc 7, 2) := by decide +kernel
theorem d3_11 : decode jdk_42_method_149_code 11 = .ok (.getfield 9, 3) := by decide +kernel
theorem d3_14 : decode jdk_42_method_149_code 14 = .ok (.putfield 9, 3) := by decide +kernel
theorem d3_17 : decode jdk_42_method_149_code 17 = .ok (.aload_n 0, 1) := by decide +kernel
theorem d3_18 : decode jdk_42_method_149_code 18 = .ok (.ldc 7, 2) := by decide +kernel
theorem d3_20 : decode jdk_42_method_149_code 20 = .ok (.getfield 15, 3) := by decide +kernel
theorem d3_23 : decode jdk_42_method_149_code 23 = .ok (.putfield 15, 3) := by decide +kernel
theorem d3_26 : decode jdk_42_method_149_code 26 = .ok (.return_, 1) := by decide +kernel
set_option maxRecDepth 65536 in
set_option maxHeartbeats 40000000 in
theorem own_w3 (l : Launch) (Z : State) (a0 : Array Value) (hw : ∀ d ∈ tables_1, d.before a0 Z = true) (cs : Int32) (gv : Value) (G : own_G Z cs gv) (h0 : Heap) (n0 : Nat) (O0 : Old Z n0 h0) (Z0 : n0 ≤ h0.size) (t : Addr) (gt : n0 ≤ t) (E0 : Exa Z h0 t "java/lang/String") (F1 : Fld Z h0 t "java/lang/String" "value" "[B" .null) (F2 : Fld Z h0 t "java/lang/String" "coder" "B" (.int (0 : Int32))) (A : Addr) (f : Nat → Nat) (A0 : ArF Z h0 A .char 0 (own_chs f)) :
    ConW l Z consts_1 (⟨"java/lang/String", "<init>", "([CIILjava/lang/Void;)V"⟩ : MethodName) jdk_42_method_149_code 6 none [] ({ frames := 1, cells := 2, slots := 4, locals := 12 } : Room) 2 4 #[(.ref t), (.ref A), (.int (0 : Int32)), (.int (0 : Int32)), .null] h0 (fun r h L => r = none ∧ (∃ W, own_T Z h 0 t W 0 (own_lat f)) ∧ Old Z n0 h ∧ Fr n0 L) := by
  refine ConW.of own_pn23 ?_
  intro pg ev s_ m bl mt cd s₁ hx hby hml hown hnm hret hlk hZ X0 e0 C0
  rw [ef_3]
  show Gd _ _ _ _ (s₁.setTop (mkF m 0 #[.val (.ref t), .val (.ref A), .val (.int (0 : Int32)), .val (.int (0 : Int32)), .val .null, .unset] []))
  have N0 := Fr.nil n0
  refine Gd.go (fun _ w_k => XS.aloadN X0.here hx rfl (hb hby d3_0) rfl rfl w_k) ?_
  show Gd _ _ _ _ (s₁.setTop (mkF m 1 #[.val (.ref t), .val (.ref A), .val (.int (0 : Int32)), .val (.int (0 : Int32)), .val .null, .unset] [(.ref t)]))
  obtain ⟨T1, X1, e1, st1⟩ := initO X0 hx hZ hown (ow hw 16 rfl) (ow hw 17 rfl) (ow hw 18 rfl) e0 (g := (mkF m 1 #[.val (.ref t), .val (.ref A), .val (.int (0 : Int32)), .val (.int (0 : Int32)), .val .null, .unset] [(.ref t)])) rfl (by rw [hml]; rfl) rfl (hb hby d3_1) (by decide) (W := 0) (Nat.le_of_eq rfl) (by decide)
  refine Gd.go (fun _ w_k => st1 _ (XS.iloadN X1.here hx rfl (hb hby d3_4) rfl (XS.ifNo X1.here hx rfl (hb hby d3_5) rfl ((if0 _ _).trans (teq (by decide)).2) w_k))) ?_
  show Gd _ _ _ _ (T1.setTop (mkF m 8 #[.val (.ref t), .val (.ref A), .val (.int (0 : Int32)), .val (.int (0 : Int32)), .val .null, .unset] []))
  refine Gd.go (fun _ w_k => XS.aloadN X1.here hx rfl (hb hby d3_8) rfl rfl w_k) ?_
  show Gd _ _ _ _ (T1.setTop (mkF m 9 #[.val (.ref t), .val (.ref A), .val (.int (0 : Int32)), .val (.int (0 : Int32)), .val .null, .unset] [(.ref t)]))
  have X0' : Stand pg l ev ({ frames := 1, cells := 2, slots := 4, locals := 12 } : Room) (s_.setVm s_.vm) m #[(.ref t), (.ref A), (.int (0 : Int32)), (.int (0 : Int32)), .null] bl mt cd T1 [] 0 0 := X1
  obtain ⟨la, T9, h9, k9, lb, lk, X9, e9, E9, hS9, hk9, hW9, hf9, LE, LC, LV, LA, -, -, -, LL, -, st9⟩ := ldcCH X0' hx hZ hown (ow hw 19 rfl) (own_wS hw) e1 (own_since s_) (by rw [C0.1]; exact Nat.le_refl _) (own_EL hw) (by simp [consts_1]) C0.2 (vs := []) (z := (0 : Int32)) ⟨by simp, rfl⟩ (by decide) rfl (g := (mkF m 9 #[.val (.ref t), .val (.ref A), .val (.int (0 : Int32)), .val (.int (0 : Int32)), .val .null, .unset] [(.ref t)])) rfl (hb hby d3_9) (n := 0) (by decide) (by decide) (by decide) (by decide)
  refine Gd.go (fun _ w_k => st9 _ w_k) ?_
  have xF2 := E0.ext E9
  have xF3 := F1.ext E9
  have xF4 := F2.ext E9
  have xO5 := Old.ext O0 E9
  have xZs6 := Nat.le_trans Z0 E9.1
  have hZ := hW9
  have hown := hf9
  have nta : t ≠ la := own_nval xF3 LV
  show Gd _ _ _ _ (T9.setTop (mkF m 11 #[.val (.ref t), .val (.ref A), .val (.int (0 : Int32)), .val (.int (0 : Int32)), .val .null, .unset] [(.ref la), (.ref t)]))
  have AB : ArF Z h9 lb .byte 0 (own_lat f) := (ArF.of_arv LA).congr (fun i hi => absurd hi (Nat.not_lt_zero _))
  have nlb : lb ≠ t := own_neA xF2 (ow hw 7 rfl) AB
  show Gd _ _ _ _ (T9.setTop (mkF m 11 #[.val (.ref t), .val (.ref A), .val (.int (0 : Int32)), .val (.int (0 : Int32)), .val .null, .unset] [(.ref la), (.ref t)]))
  obtain ⟨T7, X7, e7, st7⟩ := getF X9 hx hZ hown (host := "") (Or.inl (ow hw 25 rfl)) Via.refl e9 LV (g := (mkF m 11 #[.val (.ref t), .val (.ref A), .val (.int (0 : Int32)), .val (.int (0 : Int32)), .val .null, .unset] [(.ref la), (.ref t)])) rfl rfl (hb hby d3_11)
  refine Gd.go (fun _ w_k => st7 _ w_k) ?_
  show Gd _ _ _ _ (T7.setTop (mkF m 14 #[.val (.ref t), .val (.ref A), .val (.int (0 : Int32)), .val (.int (0 : Int32)), .val .null, .unset] [(.ref lb), (.ref t)]))
  obtain ⟨T8, h8, X8, e8, W8, st8⟩ := putF X7 hx hZ hown (host := "") (Or.inl (ow hw 25 rfl)) Via.refl e7 xF3 xF2 (Or.inr ⟨(ow hw 21 rfl), rfl, hnm⟩) (ow hw 7 rfl) (ty := (.array .byte)) (by decide) rfl rfl (g := (mkF m 14 #[.val (.ref t), .val (.ref A), .val (.int (0 : Int32)), .val (.int (0 : Int32)), .val .null, .unset] [(.ref lb), (.ref t)])) rfl rfl (hb hby d3_14)
  refine Gd.go (fun _ w_k => st8 _ w_k) ?_
  have xF9 := xF2.wr W8
  have xF10 := xF3.same W8
  have xF11 := xF4.other W8 (Or.inr (slot_ne (Or.inr (ow hw 22 rfl)) (Or.inr (ow hw 21 rfl)) (by decide) (t := .byte) (t' := (.array .byte)) (by decide) (by decide)))
  have xF12 := LE.wr W8
  have xF13 := LV.other W8 (Or.inl (Ne.symm nta))
  have xF14 := LC.other W8 (Or.inl (Ne.symm nta))
  have xF15 := AB.other W8 nlb
  have xN16 := Fr.snoc X8 N0 gt
  have xO17 := Old.wr xO5 W8 gt
  have xZs18 := Nat.le_trans xZs6 (Keep.of_wr W8).1
  show Gd _ _ _ _ (T8.setTop (mkF m 17 #[.val (.ref t), .val (.ref A), .val (.int (0 : Int32)), .val (.int (0 : Int32)), .val .null, .unset] []))
  refine Gd.go (fun _ w_k => XS.aloadN X8.here hx rfl (hb hby d3_17) rfl rfl w_k) ?_
  show Gd _ _ _ _ (T8.setTop (mkF m 18 #[.val (.ref t), .val (.ref A), .val (.int (0 : Int32)), .val (.int (0 : Int32)), .val .null, .unset] [(.ref t)]))
  have LL2 := LL.stays (vm1 := T8.vm) X8.warmed.wide
  have X8 : Stand pg l ev ({ frames := 1, cells := 2, slots := 4, locals := 12 } : Room) (s_.setVm T9.vm) m #[(.ref t), (.ref A), (.int (0 : Int32)), (.int (0 : Int32)), .null] bl mt cd T8 _ _ _ := X8
  refine Gd.go (fun _ w_k => ldcAgain X8 hx hW9 hf9 (ow hw 19 rfl) LL (g := (mkF m 18 #[.val (.ref t), .val (.ref A), .val (.int (0 : Int32)), .val (.int (0 : Int32)), .val .null, .unset] [(.ref t)])) rfl (hb hby d3_18) _ w_k) ?_
  show Gd _ _ _ _ (T8.setTop (mkF m 20 #[.val (.ref t), .val (.ref A), .val (.int (0 : Int32)), .val (.int (0 : Int32)), .val .null, .unset] [(.ref la), (.ref t)]))
  obtain ⟨T19, X19, e19, st19⟩ := getF X8 hx hZ hown (host := "") (Or.inl (ow hw 26 rfl)) Via.refl e8 xF14 (g := (mkF m 20 #[.val (.ref t), .val (.ref A), .val (.int (0 : Int32)), .val (.int (0 : Int32)), .val .null, .unset] [(.ref la), (.ref t)])) rfl rfl (hb hby d3_20)
  refine Gd.go (fun _ w_k => st19 _ w_k) ?_
  show Gd _ _ _ _ (T19.setTop (mkF m 23 #[.val (.ref t), .val (.ref A), .val (.int (0 : Int32)), .val (.int (0 : Int32)), .val .null, .unset] [(.int (0 : Int32)), (.ref t)]))
  obtain ⟨T20, h20, X20, e20, W20, st20⟩ := putF X19 hx hZ hown (host := "") (Or.inl (ow hw 26 rfl)) Via.refl e19 xF11 xF9 (Or.inr ⟨(ow hw 22 rfl), rfl, hnm⟩) (ow hw 7 rfl) (ty := .byte) (by decide) rfl rfl (g := (mkF m 23 #[.val (.ref t), .val (.ref A), .val (.int (0 : Int32)), .val (.int (0 : Int32)), .val .null, .unset] [(.int (0 : Int32)), (.ref t)])) rfl rfl (hb hby d3_23)
  refine Gd.go (fun _ w_k => st20 _ w_k) ?_
  have xF21 := xF9.wr W20
  have xF22 := xF10.other W20 (Or.inr (slot_ne (Or.inr (ow hw 21 rfl)) (Or.inr (ow hw 22 rfl)) (by decide) (t := (.array .byte)) (t' := .byte) (by decide) (by decide)))
  have xF23 := xF11.same W20
  have xF24 := xF12.wr W20
  have xF25 := xF13.other W20 (Or.inl (Ne.symm nta))
  have xF26 := xF14.other W20 (Or.inl (Ne.symm nta))
  have xF27 := xF15.other W20 nlb
  have xN28 := Fr.snoc X20 xN16 gt
  have xO29 := Old.wr xO17 W20 gt
  have xZs30 := Nat.le_trans xZs18 (Keep.of_wr W20).1
  show Gd _ _ _ _ (T20.setTop (mkF m 26 #[.val (.ref t), .val (.ref A), .val (.int (0 : Int32)), .val (.int (0 : Int32)), .val .null, .unset] []))
  refine own_retVW X20 hx hS9 (by rw [e20]; exact Nat.le_trans hk9 (Nat.le_trans (Keep.of_wr W8).1 (Keep.of_wr W20).1)) hret hlk (hb hby d3_26) ?_ (by decide) (by decide)
  rw [e20]
  exact ⟨rfl, ⟨lb, xF21, xF22, xF23, xF27⟩, xO29, xN28⟩
set_option maxRecDepth 65536 in
set_option maxHeartbeats 40000000 in
theorem own_w2 (l : Launch) (Z : State) (a0 : Array Value) (hw : ∀ d ∈ tables_1, d.before a0 Z = true) (cs : Int32) (gv : Value) (G : own_G Z cs gv) (h0 : Heap) (n0 : Nat) (O0 : Old Z n0 h0) (Z0 : n0 ≤ h0.size) (t : Addr) (gt : n0 ≤ t) (E0 : Exa Z h0 t "java/lang/String") (F1 : Fld Z h0 t "java/lang/String" "value" "[B" .null) (F2 : Fld Z h0 t "java/lang/String" "coder" "B" (.int (0 : Int32))) (A : Addr) (f : Nat → Nat) (A0 : ArF Z h0 A .char 0 (own_chs f)) :
    ConW l Z consts_1 (⟨"java/lang/String", "<init>", "([C)V"⟩ : MethodName) jdk_42_method_3_code 2 none [] ({ frames := 2, cells := 2, slots := 4, locals := 29 } : Room) 2 4 #[(.ref t), (.ref A)] h0 (fun r h L => r = none ∧ (∃ W, own_T Z h 0 t W 0 (own_lat f)) ∧ Old Z n0 h ∧ Fr n0 L) := by
  refine ConW.of own_pn24 ?_
  intro pg ev s_ m bl mt cd s₁ hx hby hml hown hnm hret hlk hZ X0 e0 C0
  rw [ef_2]
  show Gd _ _ _ _ (s₁.setTop (mkF m 0 #[.val (.ref t), .val (.ref A)] []))
  refine Gd.go (fun _ w_k => XS.aloadN X0.here hx rfl (hb hby d2_0) rfl rfl (XS.aloadN X0.here hx rfl (hb hby d2_1) rfl rfl (XS.iconst X0.here hx rfl (hb hby d2_2) (XS.aloadN X0.here hx rfl (hb hby d2_3) rfl rfl (own_len X0 hx hZ e0 A0 (z := (0 : Int32)) rfl (g := (mkF m 4 #[.val (.ref t), .val (.ref A)] [(.ref A), (.int (0 : Int32)), (.ref A), (.ref t)])) rfl rfl (hb hby d2_4) _ (XS.aconstNull X0.here hx rfl (hb hby d2_5) w_k)))))) ?_
  show Gd _ _ _ _ (s₁.setTop (mkF m 6 #[.val (.ref t), .val (.ref A)] [.null, (.int (0 : Int32)), (.int (0 : Int32)), (.ref A), (.ref t)]))
  obtain ⟨v1, T1, L1, X1, hS1, hW1, hf1, hQ1, st1⟩ := own_callIW X0 hx hZ (y := (⟨"java/lang/String", "<init>", "([CIILjava/lang/Void;)V"⟩ : MethodName)) rfl hown (ow hw 12 rfl) (ow hw 13 rfl) (ow hw 8 rfl) (ow hw 15 rfl) (by decide) (b := t) (W := 0) (own_w3 l Z a0 hw cs gv G h0 n0 O0 Z0 t gt E0 F1 F2 A f A0) rfl rfl (own_EL hw) C0.2 e0 (by decide) (by decide) (g := (mkF m 6 #[.val (.ref t), .val (.ref A)] [.null, (.int (0 : Int32)), (.int (0 : Int32)), (.ref A), (.ref t)])) rfl (by rw [hml]; rfl) (argsL := [(.ref A), (.int (0 : Int32)), (.int (0 : Int32)), .null]) (rest := []) (lenOf own_pd17 rfl) rfl (Nat.le_of_eq rfl) (hb hby d2_6) rfl (by decide) (by decide)
  obtain ⟨rfl, H9, O9, N9⟩ := hQ1
  refine Gd.go (fun _ w_k => st1 _ w_k) ?_
  show Gd _ _ _ _ (T1.setTop (mkF m 9 #[.val (.ref t), .val (.ref A)] []))
  have hZ := hW1
  have hown := hf1
  refine own_retVW X1 hx hS1 (Nat.le_refl _) hret hlk (hb hby d2_9) ?_ (by decide) (by decide)
  exact ⟨rfl, H9, O9, (List.nil_append (α := Loc) _).symm ▸ N9⟩
set_option maxRecDepth 65536 in
set_option maxHeartbeats 40000000 in
theorem own_law0 (l : Launch) (Z : State) (a0 : Array Value) (hw : ∀ d ∈ tables_1, d.before a0 Z = true) (ln va vb vc vd : Int32) (cs : Int32) (gv : Value) (G : own_G Z cs gv) (h0 : Heap) (n0 : Nat) (O0 : Old Z n0 h0) (Z0 : n0 ≤ h0.size) (hl : (ln &&& (2147483647 : Int32)) % (5 : Int32) = (0 : Int32)) :
    ConW l Z consts_1 x code maxLocals ret tables_1 room_1 24 1152 #[(.int ln), (.int va), (.int vb), (.int vc), (.int vd)] h0 (fun v h L => v = some (.int 1) ∧ Fr n0 L) := by
  refine ConW.of own_pn25 ?_
  intro pg ev s_ m bl mt cd s₁ hx hby hml hown hnm hret hlk hZ X0 e0 C0
  rw [ef_0]
  show Gd _ _ _ _ (s₁.setTop (mkF m 0 #[.val (.int ln), .val (.int va), .val (.int vb), .val (.int vc), .val (.int vd), .unset, .unset, .unset, .unset, .unset, .unset, .unset, .unset] []))
  have N0 := Fr.nil n0
  refine Gd.go (fun _ w_k => XS.iloadN X0.here hx rfl (hb hby at_0) rfl (X0.ldcInt hx hown (mvT hZ (ow hw 0 rfl)) (g := (mkF m 1 #[.val (.int ln), .val (.int va), .val (.int vb), .val (.int vc), .val (.int vd), .unset, .unset, .unset, .unset, .unset, .unset, .unset, .unset] [(.int ln)])) rfl (hb hby at_1) _ (XS.iand X0.here hx rfl (hb hby at_3) rfl (XS.iconst X0.here hx rfl (hb hby at_4) (iremM (g := (mkF m 5 #[.val (.int ln), .val (.int va), .val (.int vb), .val (.int vc), .val (.int vd), .unset, .unset, .unset, .unset, .unset, .unset, .unset, .unset] [(.int (5 : Int32)), (.int (ln &&& (2147483647 : Int32)))])) X0 hx rfl (hb hby at_5) rfl (by decide) w_k))))) ?_
  show Gd _ _ _ _ (s₁.setTop (mkF m 6 #[.val (.int ln), .val (.int va), .val (.int vb), .val (.int vc), .val (.int vd), .unset, .unset, .unset, .unset, .unset, .unset, .unset, .unset] [(.int ((ln &&& (2147483647 : Int32)) % (5 : Int32)))]))
  rw [hl]
  show Gd _ _ _ _ (s₁.setTop (mkF m 6 #[.val (.int ln), .val (.int va), .val (.int vb), .val (.int vc), .val (.int vd), .unset, .unset, .unset, .unset, .unset, .unset, .unset, .unset] [(.int (0 : Int32))]))
  refine Gd.go (fun _ w_k => XS.istore X0.here hx rfl (hb hby at_6) rfl (l' := #[.val (.int ln), .val (.int va), .val (.int vb), .val (.int vc), .val (.int vd), .val (.int (0 : Int32)), .unset, .unset, .unset, .unset, .unset, .unset, .unset]) rfl (XS.iloadN X0.here hx rfl (hb hby at_8) rfl w_k)) ?_
  show Gd _ _ _ _ (s₁.setTop (mkF m 9 #[.val (.int ln), .val (.int va), .val (.int vb), .val (.int vc), .val (.int vd), .val (.int (0 : Int32)), .unset, .unset, .unset, .unset, .unset, .unset, .unset] [(.int va)]))
  obtain ⟨T1, X1, e1, st1⟩ := own_callSP X0 hx hZ (y := (⟨"com/example/yuletally/yuletally/ScreenLinesHoldsControlPinLaw", "draw", "(I)C"⟩ : MethodName)) hown (ow hw 1 rfl) (ow hw 2 rfl) (ow hw 3 rfl) (ow hw 4 rfl) (by decide) (W := 0) (own_c1 l Z a0 hw va h0) rfl rfl e0 (by decide) (by decide) (g := (mkF m 9 #[.val (.int ln), .val (.int va), .val (.int vb), .val (.int vc), .val (.int vd), .val (.int (0 : Int32)), .unset, .unset, .unset, .unset, .unset, .unset, .unset] [(.int va)])) rfl (by rw [hml]; rfl) (argsL := [(.int va)]) (rest := []) (lenOf own_pd9 rfl) rfl (Nat.le_of_eq rfl) (hb hby at_9) rfl
  refine Gd.go (fun _ w_k => st1 _ (XS.istore X1.here hx rfl (hb hby at_12) rfl (l' := #[.val (.int ln), .val (.int va), .val (.int vb), .val (.int vc), .val (.int vd), .val (.int (0 : Int32)), .val (.int (Int32.ofNat (own_dn va))), .unset, .unset, .unset, .unset, .unset, .unset]) rfl (XS.iloadN X1.here hx rfl (hb hby at_14) rfl w_k))) ?_
  show Gd _ _ _ _ (T1.setTop (mkF m 15 #[.val (.int ln), .val (.int va), .val (.int vb), .val (.int vc), .val (.int vd), .val (.int (0 : Int32)), .val (.int (Int32.ofNat (own_dn va))), .unset, .unset, .unset, .unset, .unset, .unset] [(.int vb)]))
  obtain ⟨T2, X2, e2, st2⟩ := own_callSP X1 hx hZ (y := (⟨"com/example/yuletally/yuletally/ScreenLinesHoldsControlPinLaw", "draw", "(I)C"⟩ : MethodName)) hown (ow hw 1 rfl) (ow hw 2 rfl) (ow hw 3 rfl) (ow hw 4 rfl) (by decide) (W := 0) (own_c1 l Z a0 hw vb h0) rfl rfl e1 (by decide) (by decide) (g := (mkF m 15 #[.val (.int ln), .val (.int va), .val (.int vb), .val (.int vc), .val (.int vd), .val (.int (0 : Int32)), .val (.int (Int32.ofNat (own_dn va))), .unset, .unset, .unset, .unset, .unset, .unset] [(.int vb)])) rfl (by rw [hml]; rfl) (argsL := [(.int vb)]) (rest := []) (lenOf own_pd9 rfl) rfl (Nat.le_of_eq rfl) (hb hby at_15) rfl
  refine Gd.go (fun _ w_k => st2 _ (XS.istore X2.here hx rfl (hb hby at_18) rfl (l' := #[.val (.int ln), .val (.int va), .val (.int vb), .val (.int vc), .val (.int vd), .val (.int (0 : Int32)), .val (.int (Int32.ofNat (own_dn va))), .val (.int (Int32.ofNat (own_dn vb))), .unset, .unset, .unset, .unset, .unset]) rfl (XS.iloadN X2.here hx rfl (hb hby at_20) rfl w_k))) ?_
  show Gd _ _ _ _ (T2.setTop (mkF m 21 #[.val (.int ln), .val (.int va), .val (.int vb), .val (.int vc), .val (.int vd), .val (.int (0 : Int32)), .val (.int (Int32.ofNat (own_dn va))), .val (.int (Int32.ofNat (own_dn vb))), .unset, .unset, .unset, .unset, .unset] [(.int vc)]))
  obtain ⟨T3, X3, e3, st3⟩ := own_callSP X2 hx hZ (y := (⟨"com/example/yuletally/yuletally/ScreenLinesHoldsControlPinLaw", "draw", "(I)C"⟩ : MethodName)) hown (ow hw 1 rfl) (ow hw 2 rfl) (ow hw 3 rfl) (ow hw 4 rfl) (by decide) (W := 0) (own_c1 l Z a0 hw vc h0) rfl rfl e2 (by decide) (by decide) (g := (mkF m 21 #[.val (.int ln), .val (.int va), .val (.int vb), .val (.int vc), .val (.int vd), .val (.int (0 : Int32)), .val (.int (Int32.ofNat (own_dn va))), .val (.int (Int32.ofNat (own_dn vb))), .unset, .unset, .unset, .unset, .unset] [(.int vc)])) rfl (by rw [hml]; rfl) (argsL := [(.int vc)]) (rest := []) (lenOf own_pd9 rfl) rfl (Nat.le_of_eq rfl) (hb hby at_21) rfl
  refine Gd.go (fun _ w_k => st3 _ (XS.istore X3.here hx rfl (hb hby at_24) rfl (l' := #[.val (.int ln), .val (.int va), .val (.int vb), .val (.int vc), .val (.int vd), .val (.int (0 : Int32)), .val (.int (Int32.ofNat (own_dn va))), .val (.int (Int32.ofNat (own_dn vb))), .val (.int (Int32.ofNat (own_dn vc))), .unset, .unset, .unset, .unset]) rfl (XS.iload X3.here hx rfl (hb hby at_26) rfl w_k))) ?_
  show Gd _ _ _ _ (T3.setTop (mkF m 28 #[.val (.int ln), .val (.int va), .val (.int vb), .val (.int vc), .val (.int vd), .val (.int (0 : Int32)), .val (.int (Int32.ofNat (own_dn va))), .val (.int (Int32.ofNat (own_dn vb))), .val (.int (Int32.ofNat (own_dn vc))), .unset, .unset, .unset, .unset] [(.int vd)]))
  obtain ⟨T4, X4, e4, st4⟩ := own_callSP X3 hx hZ (y := (⟨"com/example/yuletally/yuletally/ScreenLinesHoldsControlPinLaw", "draw", "(I)C"⟩ : MethodName)) hown (ow hw 1 rfl) (ow hw 2 rfl) (ow hw 3 rfl) (ow hw 4 rfl) (by decide) (W := 0) (own_c1 l Z a0 hw vd h0) rfl rfl e3 (by decide) (by decide) (g := (mkF m 28 #[.val (.int ln), .val (.int va), .val (.int vb), .val (.int vc), .val (.int vd), .val (.int (0 : Int32)), .val (.int (Int32.ofNat (own_dn va))), .val (.int (Int32.ofNat (own_dn vb))), .val (.int (Int32.ofNat (own_dn vc))), .unset, .unset, .unset, .unset] [(.int vd)])) rfl (by rw [hml]; rfl) (argsL := [(.int vd)]) (rest := []) (lenOf own_pd9 rfl) rfl (Nat.le_of_eq rfl) (hb hby at_28) rfl
  refine Gd.go (fun _ w_k => st4 _ (XS.istore X4.here hx rfl (hb hby at_31) rfl (l' := #[.val (.int ln), .val (.int va), .val (.int vb), .val (.int vc), .val (.int vd), .val (.int (0 : Int32)), .val (.int (Int32.ofNat (own_dn va))), .val (.int (Int32.ofNat (own_dn vb))), .val (.int (Int32.ofNat (own_dn vc))), .val (.int (Int32.ofNat (own_dn vd))), .unset, .unset, .unset]) rfl (XS.iload X4.here hx rfl (hb hby at_33) rfl (XS.ifNo X4.here hx rfl (hb hby at_35) rfl ((if0 _ _).trans (teq (by decide)).2) w_k)))) ?_
  show Gd _ _ _ _ (T4.setTop (mkF m 38 #[.val (.int ln), .val (.int va), .val (.int vb), .val (.int vc), .val (.int vd), .val (.int (0 : Int32)), .val (.int (Int32.ofNat (own_dn va))), .val (.int (Int32.ofNat (own_dn vb))), .val (.int (Int32.ofNat (own_dn vc))), .val (.int (Int32.ofNat (own_dn vd))), .unset, .unset, .unset] []))
  refine Gd.go (fun _ w_k => XS.iconst X4.here hx rfl (hb hby at_38) w_k) ?_
  show Gd _ _ _ _ (T4.setTop (mkF m 39 #[.val (.int ln), .val (.int va), .val (.int vb), .val (.int vc), .val (.int vd), .val (.int (0 : Int32)), .val (.int (Int32.ofNat (own_dn va))), .val (.int (Int32.ofNat (own_dn vb))), .val (.int (Int32.ofNat (own_dn vc))), .val (.int (Int32.ofNat (own_dn vd))), .unset, .unset, .unset] [(.int (0 : Int32))]))
  obtain ⟨T5, h5, k5, X5, e5, E5, A5, st5⟩ := newP X4 hx hZ (ow hw 5 rfl) e4 (g := (mkF m 39 #[.val (.int ln), .val (.int va), .val (.int vb), .val (.int vc), .val (.int vd), .val (.int (0 : Int32)), .val (.int (Int32.ofNat (own_dn va))), .val (.int (Int32.ofNat (own_dn vb))), .val (.int (Int32.ofNat (own_dn vc))), .val (.int (Int32.ofNat (own_dn vd))), .unset, .unset, .unset] [(.int (0 : Int32))])) rfl (hb hby at_39) rfl (by decide) (cap := 0) (by decide) (by decide) (by decide) (by decide)
  obtain ⟨b5, g5⟩ : ∃ z, z = h0.size := ⟨_, rfl⟩
  rw [← g5] at A5 st5
  have n0_b5 : n0 ≤ b5 := Nat.le_trans Z0 (Nat.le_of_eq g5.symm)
  have xO6 := Old.ext O0 E5
  have xZs7 := Nat.le_trans Z0 E5.1
  have xF8 : ArF Z h5 b5 .char 0 (fun _ => (.int (0 : Int32))) := own_new (h := h0) A5 (by decide)
  refine Gd.go (fun _ w_k => st5 _ (XS.astore X5.here hx rfl (hb hby at_41) rfl rfl (l' := #[.val (.int ln), .val (.int va), .val (.int vb), .val (.int vc), .val (.int vd), .val (.int (0 : Int32)), .val (.int (Int32.ofNat (own_dn va))), .val (.int (Int32.ofNat (own_dn vb))), .val (.int (Int32.ofNat (own_dn vc))), .val (.int (Int32.ofNat (own_dn vd))), .val (.ref b5), .unset, .unset]) rfl (XS.goto X5.here hx rfl (pc0 := 43) (pc' := 143) rfl (hb hby at_43) (by decide) (by decide) w_k))) ?_
  show Gd _ _ _ _ (T5.setTop (mkF m 143 #[.val (.int ln), .val (.int va), .val (.int vb), .val (.int vc), .val (.int vd), .val (.int (0 : Int32)), .val (.int (Int32.ofNat (own_dn va))), .val (.int (Int32.ofNat (own_dn vb))), .val (.int (Int32.ofNat (own_dn vc))), .val (.int (Int32.ofNat (own_dn vd))), .val (.ref b5), .unset, .unset] []))
  obtain ⟨T9, h9, X9, e9, E9, A9, D9, -, st9⟩ := newO X5 hx hZ hown (ow hw 6 rfl) (ow hw 7 rfl) (ow hw 8 rfl) e5 (g := (mkF m 143 #[.val (.int ln), .val (.int va), .val (.int vb), .val (.int vc), .val (.int vd), .val (.int (0 : Int32)), .val (.int (Int32.ofNat (own_dn va))), .val (.int (Int32.ofNat (own_dn vb))), .val (.int (Int32.ofNat (own_dn vc))), .val (.int (Int32.ofNat (own_dn vd))), .val (.ref b5), .unset, .unset] [])) rfl (hb hby at_143) (by decide) (by decide)
  obtain ⟨b9, g9⟩ : ∃ z, z = h5.size := ⟨_, rfl⟩
  rw [← g9] at A9 D9 st9
  have ne_b5_b9 : b5 ≠ b9 := fun q => Nat.lt_irrefl _ (Nat.lt_of_lt_of_le xF8.lt (Nat.le_of_eq (q.trans g9).symm))
  have n0_b9 : n0 ≤ b9 := Nat.le_trans xZs7 (Nat.le_of_eq g9.symm)
  have xF10 := xF8.ext E9
  have xO11 := Old.ext xO6 E9
  have xZs12 := Nat.le_trans xZs7 E9.1
  have xF13 : Fld Z h9 b9 "java/lang/String" "value" "[B" .null := D9 (Or.inr (ow hw 21 rfl)) (ty := (.array .byte)) (by decide)
  have xF14 : Fld Z h9 b9 "java/lang/String" "coder" "B" (.int (0 : Int32)) := D9 (Or.inr (ow hw 22 rfl)) (ty := .byte) (by decide)
  refine Gd.go (fun _ w_k => st9 _ (XS.dup X9.here hx rfl (hb hby at_146) rfl rfl (XS.aload X9.here hx rfl (hb hby at_147) rfl rfl w_k))) ?_
  show Gd _ _ _ _ (T9.setTop (mkF m 149 #[.val (.int ln), .val (.int va), .val (.int vb), .val (.int vc), .val (.int vd), .val (.int (0 : Int32)), .val (.int (Int32.ofNat (own_dn va))), .val (.int (Int32.ofNat (own_dn vb))), .val (.int (Int32.ofNat (own_dn vc))), .val (.int (Int32.ofNat (own_dn vd))), .val (.ref b5), .unset, .unset] [(.ref b5), (.ref b9), (.ref b9)]))
  have cA : ArF Z h9 b5 .char 0 (own_chs (fun _ => 0)) := xF10.congr (fun i hi => absurd hi (Nat.not_lt_zero _))
  obtain ⟨v15, T15, L15, X15, hS15, hW15, hf15, hQ15, st15⟩ := own_callIW X9 hx hZ (y := (⟨"java/lang/String", "<init>", "([C)V"⟩ : MethodName)) rfl hown (ow hw 9 rfl) (ow hw 10 rfl) (ow hw 8 rfl) (ow hw 11 rfl) (by decide) (b := b9) (W := 1) (own_w2 l Z a0 hw cs gv G h9 n0 xO11 xZs12 b9 n0_b9 A9 xF13 xF14 b5 (fun _ => 0) cA) rfl rfl (own_EL hw) (CHv.ext E9 (CHv.ext E5 (C0.2))) e9 (by decide) (by decide) (g := (mkF m 149 #[.val (.int ln), .val (.int va), .val (.int vb), .val (.int vc), .val (.int vd), .val (.int (0 : Int32)), .val (.int (Int32.ofNat (own_dn va))), .val (.int (Int32.ofNat (own_dn vb))), .val (.int (Int32.ofNat (own_dn vc))), .val (.int (Int32.ofNat (own_dn vd))), .val (.ref b5), .unset, .unset] [(.ref b5), (.ref b9), (.ref b9)])) rfl (by rw [hml]; rfl) (argsL := [(.ref b5)]) (rest := [(.ref b9)]) (lenOf own_pd18 rfl) rfl (Nat.le_of_eq rfl) (hb hby at_149) rfl (by decide) (by decide)
  obtain ⟨rfl, ⟨W, HT⟩, O9, N9⟩ := hQ15
  refine Gd.go (fun _ w_k => st15 _ w_k) ?_
  show Gd _ _ _ _ (T15.setTop (mkF m 152 #[.val (.int ln), .val (.int va), .val (.int vb), .val (.int vc), .val (.int vd), .val (.int (0 : Int32)), .val (.int (Int32.ofNat (own_dn va))), .val (.int (Int32.ofNat (own_dn vb))), .val (.int (Int32.ofNat (own_dn vc))), .val (.int (Int32.ofNat (own_dn vd))), .val (.ref b5), .unset, .unset] [(.ref b9)]))
  have hZ := hW15
  have hown := hf15
  have xN16 := Fr.app N0 N9
  refine Gd.go (fun _ w_k => XS.astore X15.here hx rfl (hb hby at_152) rfl rfl (l' := #[.val (.int ln), .val (.int va), .val (.int vb), .val (.int vc), .val (.int vd), .val (.int (0 : Int32)), .val (.int (Int32.ofNat (own_dn va))), .val (.int (Int32.ofNat (own_dn vb))), .val (.int (Int32.ofNat (own_dn vc))), .val (.int (Int32.ofNat (own_dn vd))), .val (.ref b5), .val (.ref b9), .unset]) rfl (XS.iload X15.here hx rfl (hb hby at_154) rfl (XS.iconst X15.here hx rfl (hb hby at_156) (XS.icmpYes X15.here hx rfl (pc0 := 157) (pc' := 168) rfl (hb hby at_157) rfl (tlt (by decide)).1 (by decide) (by decide) w_k)))) ?_
  show Gd _ _ _ _ (T15.setTop (mkF m 168 #[.val (.int ln), .val (.int va), .val (.int vb), .val (.int vc), .val (.int vd), .val (.int (0 : Int32)), .val (.int (Int32.ofNat (own_dn va))), .val (.int (Int32.ofNat (own_dn vb))), .val (.int (Int32.ofNat (own_dn vc))), .val (.int (Int32.ofNat (own_dn vd))), .val (.ref b5), .val (.ref b9), .unset] []))
  refine Gd.go (fun _ w_k => XS.iload X15.here hx rfl (hb hby at_168) rfl (XS.iconst X15.here hx rfl (hb hby at_170) (XS.icmpYes X15.here hx rfl (pc0 := 171) (pc' := 182) rfl (hb hby at_171) rfl (tlt (by decide)).1 (by decide) (by decide) w_k))) ?_
  show Gd _ _ _ _ (T15.setTop (mkF m 182 #[.val (.int ln), .val (.int va), .val (.int vb), .val (.int vc), .val (.int vd), .val (.int (0 : Int32)), .val (.int (Int32.ofNat (own_dn va))), .val (.int (Int32.ofNat (own_dn vb))), .val (.int (Int32.ofNat (own_dn vc))), .val (.int (Int32.ofNat (own_dn vd))), .val (.ref b5), .val (.ref b9), .unset] []))
  refine Gd.go (fun _ w_k => XS.iload X15.here hx rfl (hb hby at_182) rfl (XS.iconst X15.here hx rfl (hb hby at_184) (XS.icmpYes X15.here hx rfl (pc0 := 185) (pc' := 196) rfl (hb hby at_185) rfl (tlt (by decide)).1 (by decide) (by decide) w_k))) ?_
  show Gd _ _ _ _ (T15.setTop (mkF m 196 #[.val (.int ln), .val (.int va), .val (.int vb), .val (.int vc), .val (.int vd), .val (.int (0 : Int32)), .val (.int (Int32.ofNat (own_dn va))), .val (.int (Int32.ofNat (own_dn vb))), .val (.int (Int32.ofNat (own_dn vc))), .val (.int (Int32.ofNat (own_dn vd))), .val (.ref b5), .val (.ref b9), .unset] []))
  refine Gd.go (fun _ w_k => XS.iload X15.here hx rfl (hb hby at_196) rfl (XS.iconst X15.here hx rfl (hb hby at_198) (XS.icmpYes X15.here hx rfl (pc0 := 199) (pc' := 214) rfl (hb hby at_199) rfl (tlt (by decide)).1 (by decide) (by decide) w_k))) ?_
  show Gd _ _ _ _ (T15.setTop (mkF m 214 #[.val (.int ln), .val (.int va), .val (.int vb), .val (.int vc), .val (.int vd), .val (.int (0 : Int32)), .val (.int (Int32.ofNat (own_dn va))), .val (.int (Int32.ofNat (own_dn vb))), .val (.int (Int32.ofNat (own_dn vc))), .val (.int (Int32.ofNat (own_dn vd))), .val (.ref b5), .val (.ref b9), .unset] []))
  refine Gd.go (fun _ w_k => XS.iconst X15.here hx rfl (hb hby at_214) (XS.istore X15.here hx rfl (hb hby at_215) rfl (l' := #[.val (.int ln), .val (.int va), .val (.int vb), .val (.int vc), .val (.int vd), .val (.int (0 : Int32)), .val (.int (Int32.ofNat (own_dn va))), .val (.int (Int32.ofNat (own_dn vb))), .val (.int (Int32.ofNat (own_dn vc))), .val (.int (Int32.ofNat (own_dn vd))), .val (.ref b5), .val (.ref b9), .val (.int (0 : Int32))]) rfl (XS.aload X15.here hx rfl (hb hby at_217) rfl rfl w_k))) ?_
  show Gd _ _ _ _ (T15.setTop (mkF m 219 #[.val (.int ln), .val (.int va), .val (.int vb), .val (.int vc), .val (.int vd), .val (.int (0 : Int32)), .val (.int (Int32.ofNat (own_dn va))), .val (.int (Int32.ofNat (own_dn vb))), .val (.int (Int32.ofNat (own_dn vc))), .val (.int (Int32.ofNat (own_dn vd))), .val (.ref b5), .val (.ref b9), .val (.int (0 : Int32))] [(.ref b9)]))
  obtain ⟨T17, X17, e17, st17⟩ := own_callSP X15 hx hZ (y := (⟨"com/example/yuletally/yuletally/ScreenLines", "holdsControl", "(Ljava/lang/String;)Z"⟩ : MethodName)) hown (ow hw 27 rfl) (ow hw 28 rfl) (ow hw 29 rfl) (ow hw 30 rfl) (by decide) (W := 0) (own_c5_0 l Z a0 hw cs gv G T15.heap n0 O9 b9 W 0 (fun _ => 0) (by decide) HT (fun i hi => absurd hi (Nat.not_lt_zero _))) rfl rfl rfl (by decide) (by decide) (g := (mkF m 219 #[.val (.int ln), .val (.int va), .val (.int vb), .val (.int vc), .val (.int vd), .val (.int (0 : Int32)), .val (.int (Int32.ofNat (own_dn va))), .val (.int (Int32.ofNat (own_dn vb))), .val (.int (Int32.ofNat (own_dn vc))), .val (.int (Int32.ofNat (own_dn vd))), .val (.ref b5), .val (.ref b9), .val (.int (0 : Int32))] [(.ref b9)])) rfl (by rw [hml]; rfl) (argsL := [(.ref b9)]) (rest := []) (lenOf own_pd19 rfl) rfl (Nat.le_of_eq rfl) (hb hby at_219) rfl
  refine Gd.go (fun _ w_k => st17 _ (XS.iload X17.here hx rfl (hb hby at_222) rfl (XS.icmpNo X17.here hx rfl (hb hby at_224) rfl (teq (by decide)).2 w_k))) ?_
  show Gd _ _ _ _ (T17.setTop (mkF m 227 #[.val (.int ln), .val (.int va), .val (.int vb), .val (.int vc), .val (.int vd), .val (.int (0 : Int32)), .val (.int (Int32.ofNat (own_dn va))), .val (.int (Int32.ofNat (own_dn vb))), .val (.int (Int32.ofNat (own_dn vc))), .val (.int (Int32.ofNat (own_dn vd))), .val (.ref b5), .val (.ref b9), .val (.int (0 : Int32))] []))
  refine Gd.go (fun _ w_k => XS.iconst X17.here hx rfl (hb hby at_227) (XS.goto X17.here hx rfl (pc0 := 228) (pc' := 232) rfl (hb hby at_228) (by decide) (by decide) w_k)) ?_
  show Gd _ _ _ _ (T17.setTop (mkF m 232 #[.val (.int ln), .val (.int va), .val (.int vb), .val (.int vc), .val (.int vd), .val (.int (0 : Int32)), .val (.int (Int32.ofNat (own_dn va))), .val (.int (Int32.ofNat (own_dn vb))), .val (.int (Int32.ofNat (own_dn vc))), .val (.int (Int32.ofNat (own_dn vd))), .val (.ref b5), .val (.ref b9), .val (.int (0 : Int32))] [(.int (1 : Int32))]))
  refine own_retNW (t := .boolean) X17 hx hS15 (by rw [e17]; exact Nat.le_refl _) hret hlk (by simp) (hb hby at_232) ?_ (by decide) (by decide)
  exact ⟨rfl, xN16⟩
theorem own_eqI {args : Array Value} {s : State} {a : Term} {k : Int32} (h : (Jvm.Cond.eq a (Term.int k)).value args s none s [] = some true) : a.eval args s none [] s = some (.int k) := by
  obtain ⟨v, y, e1, e2, k1, k2⟩ := cmp_v (Or.inl h)
  have hy : y = .int k := (Option.some.inj e2).symm
  subst hy
  obtain ⟨z, rfl⟩ := k2
  have hz : z = k := by simpa [Cond.value, e1, e2] using h
  rw [e1, hz]
theorem own_n5 (x : Int32) : (x &&& (2147483647 : Int32)) % (5 : Int32) = 0 ∨ (x &&& (2147483647 : Int32)) % (5 : Int32) = 1 ∨ (x &&& (2147483647 : Int32)) % (5 : Int32) = 2 ∨ (x &&& (2147483647 : Int32)) % (5 : Int32) = 3 ∨ (x &&& (2147483647 : Int32)) % (5 : Int32) = 4 := by
  have h := c_mask x 2147483647 31 (by decide) (by decide +kernel)
  have e5 : (5 : Int32).toInt = 5 := rfl
  have r := (c_iremV (x &&& (2147483647 : Int32)) 5).1 (by omega) (by decide)
  have : ∀ k : Fin 5, (Int32.ofNat k.val) = 0 ∨ (Int32.ofNat k.val) = 1 ∨ (Int32.ofNat k.val) = 2 ∨ (Int32.ofNat k.val) = 3 ∨ (Int32.ofNat k.val) = 4 := by decide
  generalize (x &&& (2147483647 : Int32)) % (5 : Int32) = y at r ⊢
  have e : y = Int32.ofNat y.toInt.toNat := Int32.toInt_inj.mp (by rw [own_ofN (by omega)]; omega)
  rw [e]; exact this ⟨y.toInt.toNat, by omega⟩
set_option maxRecDepth 65536 in
set_option maxHeartbeats 40000000 in
theorem comes_1 {Post : Tables → Env → Array Value → State → Outcome → State → Prop} (hpost : ∀ tb e args s v u, (limb_1_1.after args s (.returned v) u = true ∧ limb_1_2.after args s (.returned v) u = true ∧ True) → ReturnedEndW s (.returned v) u (Jvm.fieldLocs frame_1_writes args s ++ Jvm.arrayLocs frame_1_arrays args s ++ Jvm.staticLocs frame_1_statics s) 24 1152 → Post tb e args s (.returned v) u) :
    ArmFor flags0 classFile x code maxLocals ret World_1 tables_1 room_1 Calls_1 rest_1 Pre_1 Post := by
  intro l hfl _ _ p e ha hc hk s m args below hf hA hF happ hP
  obtain ⟨hcalls, hrest, hpre⟩ := hP
  obtain ⟨-, -, -, hnamed, -, -, -, hat⟩ := (Spec.applies_iff hf).mp happ
  obtain ⟨hg, hn⟩ := and_e (Cond.before_iff.mp (show (Jvm.Cond.and given_1 narrow_1).before args s = true from hpre))
  obtain ⟨h1, g0⟩ := and_e hg
  obtain ⟨k0, g1⟩ := and_e g0
  obtain ⟨k1, g2⟩ := and_e g1
  obtain ⟨k2, g3⟩ := and_e g2
  obtain ⟨k3, g4⟩ := and_e g3
  obtain ⟨w0, w1, w2, w3, w4, rfl⟩ : ∃ w0 w1 w2 w3 w4 : Value, args = #[w0, w1, w2, w3, w4] := by
    have hs : args.size = 5 := by simpa [Cond.value, given_1] using h1
    obtain ⟨L⟩ := args
    match L, hs with
    | [w0, w1, w2, w3, w4], _ => exact ⟨w0, w1, w2, w3, w4, rfl⟩
  have hw := fun d (hd : d ∈ tables_1) => atoms_spec (ws := Jvm.Cond.code x code maxLocals ret :: tables_1) hat d (List.mem_cons_of_mem _ hd)
  have hfit : Fit s := fun {y c} hc i hi => by
    obtain ⟨ha, rfl⟩ := Array.getElem?_eq_some_iff.mp hc
    have q := List.all_eq_true.mp ((Array.all_eq_true_iff_forall_mem.mp hF) _ (Array.getElem_mem ha)) i (List.mem_range.mpr hi)
    simpa [Array.getElem?_eq_getElem hi] using q
  obtain ⟨i0, e0⟩ := is_v k0
  obtain rfl : w0 = (.int i0) := Option.some.inj e0
  obtain ⟨i1, e1⟩ := is_v k1
  obtain rfl : w1 = (.int i1) := Option.some.inj e1
  obtain ⟨i2, e2⟩ := is_v k2
  obtain rfl : w2 = (.int i2) := Option.some.inj e2
  obtain ⟨i3, e3⟩ := is_v k3
  obtain rfl : w3 = (.int i3) := Option.some.inj e3
  obtain ⟨i4, e4⟩ := is_v g4
  obtain rfl : w4 = (.int i4) := Option.some.inj e4
  have hr := (atoms_of jdkStatics_1 (show (jdkStatics_1.foldr Jvm.Cond.and restOwn_1).before _ s = true from hrest)).1
  obtain ⟨cs, ecs⟩ := is_v (Cond.before_iff.mp (hr _ (List.mem_of_getElem? (i := 1) rfl)))
  have hcs : ¬ cs = 0 := fun q => by
    have z := not_v (Cond.before_iff.mp (hr _ (List.mem_of_getElem? (i := 2) rfl)))
    rw [q] at ecs
    have z2 : (Jvm.Cond.eq (Term.static "java/lang/String" "COMPACT_STRINGS" "Z") (Term.int (0 : Int32))).value _ s none s [] = some true := eq_i ecs (Term.int_eval (0)) rfl
    rw [z2] at z; cases z
  have S1 := Sta.start ecs (Or.inl (hr _ (List.mem_of_getElem? (i := 0) rfl)))
  obtain ⟨gv, egv, rgv⟩ := isR_v (Cond.before_iff.mp (hr _ (List.mem_of_getElem? (i := 8) rfl)))
  have S2 := Sta.start egv (Or.inl (hr _ (List.mem_of_getElem? (i := 7) rfl)))
  have S3 := Sta.start (own_eqI (Cond.before_iff.mp (hr _ (List.mem_of_getElem? (i := 12) rfl)))) (Or.inl (hr _ (List.mem_of_getElem? (i := 11) rfl)))
  have S4 := Sta.start (own_eqI (Cond.before_iff.mp (hr _ (List.mem_of_getElem? (i := 15) rfl)))) (Or.inl (hr _ (List.mem_of_getElem? (i := 14) rfl)))
  have S5 := Sta.start (own_eqI (Cond.before_iff.mp (hr _ (List.mem_of_getElem? (i := 18) rfl)))) (Or.inl (hr _ (List.mem_of_getElem? (i := 17) rfl)))
  have GG : own_G s cs gv := ⟨hcs, S1, S2, by cases gv <;> simp [Value.isRef] at rgv <;> rfl, S3, S4, S5⟩
  have CC : CHv s consts_1 s.vm s.heap := CHv.start (own_EL hw) (fun q hq => hcalls.1 q hq) (hr _ (List.mem_of_getElem? (i := 2) rfl)) (ow hw 20 rfl) (ow hw 7 rfl)
  rcases own_n5 i0 with hl | hl | hl | hl | hl
  · obtain ⟨n, o, h1, h2, h3, _, L, rfl, ⟨rfl, N⟩, hq⟩ := own_law0 l s _ hw i0 i1 i2 i3 i4 cs gv GG s.heap s.heap.size (Old.start s) (Nat.le_refl _) hl p e ha hc hk s m _ below hf ((Spec.applies_iff_loose hf).mp happ).1 ⟨rfl, State.Warmed39.refl s, rfl, CC⟩ trivial
    exact ⟨n, _, h1, h2, h3, hpost _ _ _ _ _ _ ⟨Cond.after_iff.mpr rfl, Cond.after_iff.mpr (eq_i res_at (Term.int_eval (1)) rfl), trivial⟩ ⟨hq.1, hq.2.1, hq.2.2.1, (hq.2.2.2.sift fun y hy => Or.inr (N y hy)).mono (by decide) (by decide)⟩⟩
  · obtain ⟨n, o, h1, h2, h3, _, L, rfl, ⟨rfl, N⟩, hq⟩ := own_law1 l s _ hw i0 i1 i2 i3 i4 cs gv GG s.heap s.heap.size (Old.start s) (Nat.le_refl _) hl p e ha hc hk s m _ below hf ((Spec.applies_iff_loose hf).mp happ).1 ⟨rfl, State.Warmed39.refl s, rfl⟩ trivial
    exact ⟨n, _, h1, h2, h3, hpost _ _ _ _ _ _ ⟨Cond.after_iff.mpr rfl, Cond.after_iff.mpr (eq_i res_at (Term.int_eval (1)) rfl), trivial⟩ (ReturnedEndW.of_narrow hq.1 hq.2.1 ((hq.2.2.sift fun y hy => Or.inr (N y hy)).mono (by decide) (by decide)))⟩
  · obtain ⟨n, o, h1, h2, h3, _, L, rfl, ⟨rfl, N⟩, hq⟩ := own_law2 l s _ hw i0 i1 i2 i3 i4 cs gv GG s.heap s.heap.size (Old.start s) (Nat.le_refl _) hl p e ha hc hk s m _ below hf ((Spec.applies_iff_loose hf).mp happ).1 ⟨rfl, State.Warmed39.refl s, rfl⟩ trivial
    exact ⟨n, _, h1, h2, h3, hpost _ _ _ _ _ _ ⟨Cond.after_iff.mpr rfl, Cond.after_iff.mpr (eq_i res_at (Term.int_eval (1)) rfl), trivial⟩ (ReturnedEndW.of_narrow hq.1 hq.2.1 ((hq.2.2.sift fun y hy => Or.inr (N y hy)).mono (by decide) (by decide)))⟩
  · obtain ⟨n, o, h1, h2, h3, _, L, rfl, ⟨rfl, N⟩, hq⟩ := own_law3 l s _ hw i0 i1 i2 i3 i4 cs gv GG s.heap s.heap.size (Old.start s) (Nat.le_refl _) hl p e ha hc hk s m _ below hf ((Spec.applies_iff_loose hf).mp happ).1 ⟨rfl, State.Warmed39.refl s, rfl⟩ trivial
    exact ⟨n, _, h1, h2, h3, hpost _ _ _ _ _ _ ⟨Cond.after_iff.mpr rfl, Cond.after_iff.mpr (eq_i res_at (Term.int_eval (1)) rfl), trivial⟩ (ReturnedEndW.of_narrow hq.1 hq.2.1 ((hq.2.2.sift fun y hy => Or.inr (N y hy)).mono (by decide) (by decide)))⟩
  · obtain ⟨n, o, h1, h2, h3, _, L, rfl, ⟨rfl, N⟩, hq⟩ := own_law4 l s _ hw i0 i1 i2 i3 i4 cs gv GG s.heap s.heap.size (Old.start s) (Nat.le_refl _) hl p e ha hc hk s m _ below hf ((Spec.applies_iff_loose hf).mp happ).1 ⟨rfl, State.Warmed39.refl s, rfl⟩ trivial
    exact ⟨n, _, h1, h2, h3, hpost _ _ _ _ _ _ ⟨Cond.after_iff.mpr rfl, Cond.after_iff.mpr (eq_i res_at (Term.int_eval (1)) rfl), trivial⟩ (ReturnedEndW.of_narrow hq.1 hq.2.1 ((hq.2.2.sift fun y hy => Or.inr (N y hy)).mono (by decide) (by decide)))⟩
theorem main_1_1 : Claimed_1_1 := comes_1 fun _ _ _ _ _ _ h hF => ⟨h.1, hF⟩
theorem main_1_2 : Claimed_1_2 := comes_1 fun _ _ _ _ _ _ h hF => ⟨h.2.1, hF⟩
end Jvm.Pilot.@@N@@
namespace Jvm.Pilot.@@N@@
open Jvm Jvm.ClassFile Sem Op Lib Jvm.Free Jvm.Stand Jvm.Pilot.@@N@@.Jvm.D
/-! MADE BY PROGRAM (witnessworld.py) out of the Statement's table words and the real class files: 21 classes; the members and pool entries that the words name. The judged class is class 1, her method 3. -/
namespace start1
open Jvm.ClassFile
def u (s : String) : CpInfo := .utf8 (stringToUtf16 s)
/-- a pool by its gaps: so many unusable entries, then the entry; so many at the end -/
def gap : Nat → List CpInfo → List CpInfo
  | 0, r => r
  | n + 1, r => .unusable :: gap n r
def poolList (es : List (Nat × CpInfo)) (last : Nat) : List CpInfo := es.foldr (fun e r => gap e.1 (e.2 :: r)) (gap last [])
def pool (es : List (Nat × CpInfo)) (last : Nat) : Array CpInfo := ⟨poolList es last⟩
def fileOf (pool : Array CpInfo) (this : Nat) (attrs : Array Attribute := #[]) (ms : Array MethodInfo := #[]) (fl : Nat := 33) (sup : Nat := 0) (ifs : Array Nat := #[]) (fds : Array FieldInfo := #[]) : ClassFile where
  minorVersion := 0
  majorVersion := 65
  constantPool := pool
  accessFlags := fl
  thisClass := this
  superClass := sup
  interfaces := ifs
  fields := fds
  methods := ms
  attributes := attrs
def plain (name : String) (sup : Option ClassId) : Class where
  name := name
  kind := .ordinary
  loader := none
  accessFlags := 33
  super := sup
  interfaces := #[]
  cf := none
  fields := #[]
  methods := #[]
  instanceTypes := #[]
  staticTypes := #[]
  resolved := #[]
  callSites := []
  init := .initialized
  statics := none
  mirror := none

def pool0 : Array CpInfo := pool [(5, u "<init>"), (0, u "()V"), (1, .class_ 10), (1, u "java/lang/Object")] 113

def k0c0 : Code := { maxStack := 0, maxLocals := 1, code := object_method_1_code, exceptionTable := #[], attributes := #[] }
def k0m0 : Method := { name := "<init>", desc := "()V", sig := { parameters := [], returnType := none }, accessFlags := 1, code := some k0c0 }
/-- java/lang/Object -/
def k0 : Class := { plain "java/lang/Object" none with
  accessFlags := 33
  interfaces := #[]
  cf := some (fileOf pool0 8 #[] #[{ accessFlags := 1, nameIndex := 5, descriptorIndex := 6, attributes := #[] }] 33 0 #[] #[])
  fields := #[]
  methods := #[k0m0]
  instanceTypes := #[]
  staticTypes := #[]
  resolved := Array.replicate 124 none
  statics := none }

def pool1 : Array CpInfo := pool [(2, .class_ 4), (1, u "java/lang/Object"), (0, u "<init>"), (0, u "()V"), (0, .integer 65535), (0, .integer 2147483647), (0, .methodref 10 11), (0, .class_ 12), (0, .nameAndType 13 14), (0, u "com/example/yuletally/yuletally/ScreenLinesHoldsControlPinLaw"), (0, u "draw"), (0, u "(I)C"), (0, .class_ 16), (0, u "java/lang/String"), (0, .methodref 15 18), (0, .nameAndType 5 19), (0, u "([C)V"), (0, .methodref 10 21), (0, .nameAndType 22 23), (0, u "ctl"), (0, u "(C)Z"), (0, .methodref 25 26), (0, .class_ 27), (0, .nameAndType 28 29), (0, u "com/example/yuletally/yuletally/ScreenLines"), (0, u "holdsControl"), (0, u "(Ljava/lang/String;)Z"), (3, u "law"), (0, u "(IIIII)Z")] 4

def k1m0 : Method := { name := "<init>", desc := "()V", sig := { parameters := [], returnType := none }, accessFlags := 1, code := none }
def k1c1 : Code := { maxStack := 2, maxLocals := 1, code := method_2_code, exceptionTable := #[], attributes := #[] }
def k1m1 : Method := { name := "ctl", desc := "(C)Z", sig := { parameters := [.char], returnType := some .boolean }, accessFlags := 10, code := some k1c1 }
def k1c2 : Code := { maxStack := 2, maxLocals := 1, code := method_3_code, exceptionTable := #[], attributes := #[] }
def k1m2 : Method := { name := "draw", desc := "(I)C", sig := { parameters := [.int], returnType := some .char }, accessFlags := 10, code := some k1c2 }
def k1c3 : Code := { maxStack := 4, maxLocals := 13, code := code, exceptionTable := #[], attributes := #[] }
def k1m3 : Method := { name := "law", desc := "(IIIII)Z", sig := { parameters := [.int, .int, .int, .int, .int], returnType := some .boolean }, accessFlags := 9, code := some k1c3 }
/-- com/example/yuletally/yuletally/ScreenLinesHoldsControlPinLaw -/
def k1 : Class := { plain "com/example/yuletally/yuletally/ScreenLinesHoldsControlPinLaw" (some 0) with
  accessFlags := 49
  interfaces := #[]
  cf := some (fileOf pool1 10 #[] #[{ accessFlags := 1, nameIndex := 5, descriptorIndex := 6, attributes := #[] }, { accessFlags := 10, nameIndex := 22, descriptorIndex := 23, attributes := #[] }, { accessFlags := 10, nameIndex := 13, descriptorIndex := 14, attributes := #[] }, { accessFlags := 9, nameIndex := 33, descriptorIndex := 34, attributes := #[] }] 49 2 #[] #[])
  fields := #[]
  methods := #[k1m0, k1m1, k1m2, k1m3]
  instanceTypes := #[]
  staticTypes := #[]
  resolved := Array.replicate 39 none
  statics := none }

def pool2 : Array CpInfo := pool [(1, .class_ 2), (0, u "java/io/Serializable"), (0, .class_ 4), (0, u "java/lang/Object")] 2

/-- java/io/Serializable -/
def k2 : Class := { plain "java/io/Serializable" (some 0) with
  accessFlags := 1537
  interfaces := #[]
  cf := some (fileOf pool2 1 #[] #[] 1537 3 #[] #[])
  fields := #[]
  methods := #[]
  instanceTypes := #[]
  staticTypes := #[]
  resolved := Array.replicate 7 none
  statics := none }

def pool3 : Array CpInfo := pool [(1, .class_ 2), (0, u "java/lang/Comparable"), (0, .class_ 4), (0, u "java/lang/Object")] 7

/-- java/lang/Comparable -/
def k3 : Class := { plain "java/lang/Comparable" (some 0) with
  accessFlags := 1537
  interfaces := #[]
  cf := some (fileOf pool3 1 #[] #[] 1537 3 #[] #[])
  fields := #[]
  methods := #[]
  instanceTypes := #[]
  staticTypes := #[]
  resolved := Array.replicate 12 none
  statics := none }

def pool4 : Array CpInfo := pool [(2, .class_ 4), (1, u "java/lang/CharSequence"), (42, .class_ 48), (0, u "java/lang/CharSequence$1CodePointIterator"), (10, .class_ 60), (0, u "java/lang/CharSequence$1CharIterator"), (5, .class_ 67), (0, u "java/lang/Object")] 63

/-- java/lang/CharSequence -/
def k4 : Class := { plain "java/lang/CharSequence" (some 0) with
  accessFlags := 1537
  interfaces := #[]
  cf := some (fileOf pool4 2 #[.nestMembers #[47, 59]] #[] 1537 66 #[] #[])
  fields := #[]
  methods := #[]
  instanceTypes := #[]
  staticTypes := #[]
  resolved := Array.replicate 131 none
  statics := none }

def pool5 : Array CpInfo := pool [(1, .class_ 2), (0, u "java/lang/constant/Constable"), (0, .class_ 4), (0, u "java/lang/Object")] 6

/-- java/lang/constant/Constable -/
def k5 : Class := { plain "java/lang/constant/Constable" (some 0) with
  accessFlags := 1537
  interfaces := #[]
  cf := some (fileOf pool5 1 #[] #[] 1537 3 #[] #[])
  fields := #[]
  methods := #[]
  instanceTypes := #[]
  staticTypes := #[]
  resolved := Array.replicate 11 none
  statics := none }

def pool6 : Array CpInfo := pool [(1, .class_ 2), (0, u "java/lang/constant/ConstantDesc"), (0, .class_ 4), (0, u "java/lang/Object")] 32

/-- java/lang/constant/ConstantDesc -/
def k6 : Class := { plain "java/lang/constant/ConstantDesc" (some 0) with
  accessFlags := 1537
  interfaces := #[]
  cf := some (fileOf pool6 1 #[] #[] 1537 3 #[] #[])
  fields := #[]
  methods := #[]
  instanceTypes := #[]
  staticTypes := #[]
  resolved := Array.replicate 37 none
  statics := none }

def pool7 : Array CpInfo := pool [(1, .methodref 2 3), (0, .class_ 4), (0, .nameAndType 5 6), (0, u "java/lang/Object"), (0, u "<init>"), (0, u "()V"), (0, .string 8), (0, u ""), (0, .fieldref 10 11), (0, .class_ 12), (0, .nameAndType 13 14), (0, u "java/lang/String"), (0, u "value"), (0, u "[B"), (0, .fieldref 10 16), (0, .nameAndType 17 18), (0, u "coder"), (0, u "B"), (2, u "hash"), (0, u "I"), (2, u "hashIsZero"), (0, u "Z"), (0, .methodref 10 28), (0, .nameAndType 5 29), (0, u "([CIILjava/lang/Void;)V"), (8, .fieldref 10 39), (0, .nameAndType 40 26), (0, u "COMPACT_STRINGS"), (1, .class_ 44), (1, u "java/lang/StringUTF16"), (0, u "compress"), (1, .methodref 42 48), (0, .nameAndType 49 50), (0, u "coderFromArrayLen"), (0, u "([BI)B"), (56, .class_ 109), (1, u "java/lang/StringLatin1"), (32, u "()Z"), (34, .methodref 42 178), (0, .nameAndType 45 179), (0, u "([CII)[B"), (154, u "()I"), (0, .methodref 10 336), (0, .nameAndType 17 337), (0, u "()B"), (25, u "([BI)C"), (27, u "(II)V"), (35, u "(I)C"), (64, .methodref 10 493), (0, .nameAndType 494 142), (0, u "isLatin1"), (0, .methodref 107 496), (0, .nameAndType 497 363), (0, u "charAt"), (0, .methodref 42 496), (2, u "checkIndex"), (5, u "length"), (67, .class_ 576), (0, u "java/lang/CharSequence"), (22, u "CASE_INSENSITIVE_ORDER"), (0, u "Ljava/util/Comparator;"), (409, u "([C)V"), (42, .fieldref 1054 1055), (0, .class_ 1056), (0, .nameAndType 1057 1058), (0, u "jdk/internal/util/Preconditions"), (0, u "SIOOBE_FORMATTER"), (0, u "Ljava/util/function/BiFunction;"), (0, .methodref 1054 1060), (0, .nameAndType 501 1061), (0, u "(IILjava/util/function/BiFunction;)I"), (39, u "serialPersistentFields"), (0, u "[Ljava/io/ObjectStreamField;"), (0, .class_ 1104), (0, u "java/lang/String$CaseInsensitiveComparator"), (1, .class_ 1107), (0, u "java/io/Serializable"), (0, .class_ 1109), (0, u "java/lang/Comparable"), (0, .class_ 1111), (0, u "java/lang/constant/Constable"), (0, .class_ 1113), (0, u "java/lang/constant/ConstantDesc"), (2, u "serialVersionUID"), (0, u "J"), (3, u "REPL"), (0, u "C"), (2, u "LATIN1"), (1, u "UTF16")] 323

def k7m0 : Method := { name := "<init>", desc := "()V", sig := { parameters := [], returnType := none }, accessFlags := 1, code := none }
def k7c1 : Code := { maxStack := 5, maxLocals := 2, code := jdk_42_method_3_code, exceptionTable := #[], attributes := #[] }
def k7m1 : Method := { name := "<init>", desc := "([C)V", sig := { parameters := [(.array .char)], returnType := none }, accessFlags := 1, code := some k7c1 }
def k7c2 : Code := { maxStack := 2, maxLocals := 1, code := jdk_42_method_54_code, exceptionTable := #[], attributes := #[] }
def k7m2 : Method := { name := "length", desc := "()I", sig := { parameters := [], returnType := some .int }, accessFlags := 1, code := some k7c2 }
def k7c3 : Code := { maxStack := 2, maxLocals := 2, code := jdk_42_method_56_code, exceptionTable := #[], attributes := #[] }
def k7m3 : Method := { name := "charAt", desc := "(I)C", sig := { parameters := [.int], returnType := some .char }, accessFlags := 1, code := some k7c3 }
def k7c4 : Code := { maxStack := 4, maxLocals := 6, code := jdk_42_method_149_code, exceptionTable := #[], attributes := #[] }
def k7m4 : Method := { name := "<init>", desc := "([CIILjava/lang/Void;)V", sig := { parameters := [(.array .char), .int, .int, (.object "java/lang/Void")], returnType := none }, accessFlags := 2, code := some k7c4 }
def k7c5 : Code := { maxStack := 1, maxLocals := 1, code := jdk_42_method_152_code, exceptionTable := #[], attributes := #[] }
def k7m5 : Method := { name := "coder", desc := "()B", sig := { parameters := [], returnType := some .byte }, accessFlags := 0, code := some k7c5 }
def k7c6 : Code := { maxStack := 1, maxLocals := 1, code := jdk_42_method_154_code, exceptionTable := #[], attributes := #[] }
def k7m6 : Method := { name := "isLatin1", desc := "()Z", sig := { parameters := [], returnType := some .boolean }, accessFlags := 0, code := some k7c6 }
def k7c7 : Code := { maxStack := 3, maxLocals := 2, code := jdk_42_method_155_code, exceptionTable := #[], attributes := #[] }
def k7m7 : Method := { name := "checkIndex", desc := "(II)V", sig := { parameters := [.int, .int], returnType := none }, accessFlags := 8, code := some k7c7 }
/-- java/lang/String -/
def k7 : Class := { plain "java/lang/String" (some 0) with
  accessFlags := 49
  interfaces := #[2, 3, 4, 5, 6]
  cf := some (fileOf pool7 10 #[.nestMembers #[1103]] #[{ accessFlags := 1, nameIndex := 5, descriptorIndex := 6, attributes := #[] }, { accessFlags := 1, nameIndex := 5, descriptorIndex := 1010, attributes := #[] }, { accessFlags := 1, nameIndex := 507, descriptorIndex := 334, attributes := #[] }, { accessFlags := 1, nameIndex := 497, descriptorIndex := 427, attributes := #[] }, { accessFlags := 2, nameIndex := 5, descriptorIndex := 29, attributes := #[] }, { accessFlags := 0, nameIndex := 17, descriptorIndex := 337, attributes := #[] }, { accessFlags := 0, nameIndex := 494, descriptorIndex := 142, attributes := #[] }, { accessFlags := 8, nameIndex := 501, descriptorIndex := 391, attributes := #[] }] 49 2 #[1106, 1108, 575, 1110, 1112] #[{ accessFlags := 18, nameIndex := 13, descriptorIndex := 14, attributes := #[] }, { accessFlags := 18, nameIndex := 17, descriptorIndex := 18, attributes := #[] }, { accessFlags := 2, nameIndex := 21, descriptorIndex := 22, attributes := #[] }, { accessFlags := 2, nameIndex := 25, descriptorIndex := 26, attributes := #[] }, { accessFlags := 26, nameIndex := 1116, descriptorIndex := 1117, attributes := #[] }, { accessFlags := 24, nameIndex := 40, descriptorIndex := 26, attributes := #[] }, { accessFlags := 26, nameIndex := 1101, descriptorIndex := 1102, attributes := #[] }, { accessFlags := 26, nameIndex := 1121, descriptorIndex := 1122, attributes := #[] }, { accessFlags := 25, nameIndex := 599, descriptorIndex := 600, attributes := #[] }, { accessFlags := 24, nameIndex := 1125, descriptorIndex := 18, attributes := #[] }, { accessFlags := 24, nameIndex := 1127, descriptorIndex := 18, attributes := #[] }])
  fields := #[{ name := "value", type := (.array .byte), accessFlags := 18, slot := 0, constantValue := 0 }, { name := "coder", type := .byte, accessFlags := 18, slot := 1, constantValue := 0 }, { name := "hash", type := .int, accessFlags := 2, slot := 2, constantValue := 0 }, { name := "hashIsZero", type := .boolean, accessFlags := 2, slot := 3, constantValue := 0 }, { name := "serialVersionUID", type := .long, accessFlags := 26, slot := 0, constantValue := 0 }, { name := "COMPACT_STRINGS", type := .boolean, accessFlags := 24, slot := 1, constantValue := 0 }, { name := "serialPersistentFields", type := (.array (.object "java/io/ObjectStreamField")), accessFlags := 26, slot := 2, constantValue := 0 }, { name := "REPL", type := .char, accessFlags := 26, slot := 3, constantValue := 0 }, { name := "CASE_INSENSITIVE_ORDER", type := (.object "java/util/Comparator"), accessFlags := 25, slot := 4, constantValue := 0 }, { name := "LATIN1", type := .byte, accessFlags := 24, slot := 5, constantValue := 0 }, { name := "UTF16", type := .byte, accessFlags := 24, slot := 6, constantValue := 0 }]
  methods := #[k7m0, k7m1, k7m2, k7m3, k7m4, k7m5, k7m6, k7m7]
  instanceTypes := #[(.array .byte), .byte, .int, .boolean]
  staticTypes := #[.long, .boolean, (.array (.object "java/io/ObjectStreamField")), .char, (.object "java/util/Comparator"), .byte, .byte]
  resolved := Array.replicate 1451 none
  statics := some 0 }

def pool8 : Array CpInfo := pool [(2, .class_ 4), (1, u "java/lang/Object"), (0, u "<init>"), (0, u "()V"), (4, .class_ 13), (1, u "com/example/yuletally/yuletally/ScreenLines"), (0, u "lines"), (0, u "Ljava/util/List;"), (40, .class_ 58), (1, u "java/lang/String"), (12, .methodref 56 72), (0, .nameAndType 73 74), (0, u "length"), (0, u "()I"), (0, .methodref 56 76), (0, .nameAndType 77 78), (0, u "charAt"), (0, u "(I)C"), (0, .methodref 80 81), (0, .class_ 82), (0, .nameAndType 83 84), (0, u "java/lang/Character"), (0, u "isISOControl"), (0, u "(C)Z"), (0, u "NONE"), (0, u "Ljava/lang/String;"), (18, u "holdsControl"), (0, u "(Ljava/lang/String;)Z")] 21

def k8m0 : Method := { name := "<init>", desc := "()V", sig := { parameters := [], returnType := none }, accessFlags := 0, code := none }
def k8c1 : Code := { maxStack := 2, maxLocals := 2, code := prog_11_method_8_code, exceptionTable := #[], attributes := #[] }
def k8m1 : Method := { name := "holdsControl", desc := "(Ljava/lang/String;)Z", sig := { parameters := [(.object "java/lang/String")], returnType := some .boolean }, accessFlags := 8, code := some k8c1 }
/-- com/example/yuletally/yuletally/ScreenLines -/
def k8 : Class := { plain "com/example/yuletally/yuletally/ScreenLines" (some 0) with
  accessFlags := 48
  interfaces := #[]
  cf := some (fileOf pool8 11 #[] #[{ accessFlags := 0, nameIndex := 5, descriptorIndex := 6, attributes := #[] }, { accessFlags := 8, nameIndex := 105, descriptorIndex := 106, attributes := #[] }] 48 2 #[] #[{ accessFlags := 24, nameIndex := 85, descriptorIndex := 86, attributes := #[] }, { accessFlags := 18, nameIndex := 14, descriptorIndex := 15, attributes := #[] }])
  fields := #[{ name := "NONE", type := (.object "java/lang/String"), accessFlags := 24, slot := 0, constantValue := 0 }, { name := "lines", type := (.object "java/util/List"), accessFlags := 18, slot := 0, constantValue := 0 }]
  methods := #[k8m0, k8m1]
  instanceTypes := #[(.object "java/util/List")]
  staticTypes := #[(.object "java/lang/String")]
  resolved := Array.replicate 128 none
  statics := none }

def pool9 : Array CpInfo := pool [(3, .class_ 4), (0, u "java/lang/String"), (1, .class_ 8), (1, u "java/lang/Object"), (0, u "<init>"), (0, u "()V"), (0, .methodref 12 13), (0, .class_ 14), (0, .nameAndType 15 16), (0, u "java/lang/StringUTF16"), (0, u "newBytesLength"), (0, u "(I)I"), (3, .integer 1073741823), (23, .fieldref 12 45), (0, .nameAndType 46 47), (0, u "$assertionsDisabled"), (0, u "Z"), (0, .methodref 12 49), (0, .nameAndType 50 51), (0, u "length"), (0, u "([B)I"), (7, .fieldref 12 60), (0, .nameAndType 61 62), (0, u "HI_BYTE_SHIFT"), (0, u "I"), (0, .fieldref 12 64), (0, .nameAndType 65 62), (0, u "LO_BYTE_SHIFT"), (1, .methodref 12 68), (0, .nameAndType 69 70), (0, u "checkIndex"), (0, u "(I[B)V"), (0, .methodref 12 72), (0, .nameAndType 73 74), (0, u "getChar"), (0, u "([BI)C"), (32, .methodref 12 108), (0, .nameAndType 109 110), (0, u "newBytesFor"), (0, u "(I)[B"), (0, .methodref 12 112), (0, .nameAndType 113 114), (0, u "putChar"), (0, u "([BII)V"), (0, .methodref 12 116), (0, .nameAndType 117 118), (0, u "compress"), (0, u "([CI[BII)I"), (0, .methodref 12 120), (0, .nameAndType 121 122), (0, u "toBytes"), (0, u "([CII)[B"), (138, u "coderFromArrayLen"), (0, u "([BI)B"), (106, .class_ 371), (1, u "java/lang/StringUTF16$LinesSpliterator"), (20, u "charAt"), (21, .methodref 3 415), (0, .nameAndType 69 416), (0, u "(II)V"), (13, u "MAX_LENGTH"), (196, .class_ 628), (0, u "java/lang/StringUTF16$CodePointsSpliterator"), (0, .class_ 630), (0, u "java/lang/StringUTF16$CharsSpliterator")] 4

def k9m0 : Method := { name := "<init>", desc := "()V", sig := { parameters := [], returnType := none }, accessFlags := 0, code := none }
def k9c1 : Code := { maxStack := 1, maxLocals := 1, code := jdk_52_method_2_code, exceptionTable := #[], attributes := #[] }
def k9m1 : Method := { name := "newBytesFor", desc := "(I)[B", sig := { parameters := [.int], returnType := some (.array .byte) }, accessFlags := 9, code := some k9c1 }
def k9c2 : Code := { maxStack := 4, maxLocals := 1, code := jdk_52_method_3_code, exceptionTable := #[], attributes := #[] }
def k9m2 : Method := { name := "newBytesLength", desc := "(I)I", sig := { parameters := [.int], returnType := some .int }, accessFlags := 9, code := some k9c2 }
def k9c3 : Code := { maxStack := 4, maxLocals := 3, code := jdk_52_method_4_code, exceptionTable := #[], attributes := #[] }
def k9m3 : Method := { name := "putChar", desc := "([BII)V", sig := { parameters := [(.array .byte), .int, .int], returnType := none }, accessFlags := 8, code := some k9c3 }
def k9c4 : Code := { maxStack := 3, maxLocals := 2, code := jdk_52_method_5_code, exceptionTable := #[], attributes := #[] }
def k9m4 : Method := { name := "getChar", desc := "([BI)C", sig := { parameters := [(.array .byte), .int], returnType := some .char }, accessFlags := 8, code := some k9c4 }
def k9c5 : Code := { maxStack := 2, maxLocals := 1, code := jdk_52_method_6_code, exceptionTable := #[], attributes := #[] }
def k9m5 : Method := { name := "length", desc := "([B)I", sig := { parameters := [(.array .byte)], returnType := some .int }, accessFlags := 9, code := some k9c5 }
def k9c6 : Code := { maxStack := 4, maxLocals := 5, code := jdk_52_method_14_code, exceptionTable := #[], attributes := #[] }
def k9m6 : Method := { name := "toBytes", desc := "([CII)[B", sig := { parameters := [(.array .char), .int, .int], returnType := some (.array .byte) }, accessFlags := 9, code := some k9c6 }
def k9c7 : Code := { maxStack := 2, maxLocals := 2, code := jdk_52_method_15_code, exceptionTable := #[], attributes := #[] }
def k9m7 : Method := { name := "coderFromArrayLen", desc := "([BI)B", sig := { parameters := [(.array .byte), .int], returnType := some .byte }, accessFlags := 8, code := some k9c7 }
def k9c8 : Code := { maxStack := 5, maxLocals := 6, code := jdk_52_method_16_code, exceptionTable := #[], attributes := #[] }
def k9m8 : Method := { name := "compress", desc := "([CII)[B", sig := { parameters := [(.array .char), .int, .int], returnType := some (.array .byte) }, accessFlags := 9, code := some k9c8 }
def k9c9 : Code := { maxStack := 3, maxLocals := 7, code := jdk_52_method_21_code, exceptionTable := #[], attributes := #[] }
def k9m9 : Method := { name := "compress", desc := "([CI[BII)I", sig := { parameters := [(.array .char), .int, (.array .byte), .int, .int], returnType := some .int }, accessFlags := 9, code := some k9c9 }
def k9c10 : Code := { maxStack := 2, maxLocals := 2, code := jdk_52_method_83_code, exceptionTable := #[], attributes := #[] }
def k9m10 : Method := { name := "charAt", desc := "([BI)C", sig := { parameters := [(.array .byte), .int], returnType := some .char }, accessFlags := 9, code := some k9c10 }
def k9c11 : Code := { maxStack := 2, maxLocals := 2, code := jdk_52_method_91_code, exceptionTable := #[], attributes := #[] }
def k9m11 : Method := { name := "checkIndex", desc := "(I[B)V", sig := { parameters := [.int, (.array .byte)], returnType := none }, accessFlags := 9, code := some k9c11 }
/-- java/lang/StringUTF16 -/
def k9 : Class := { plain "java/lang/StringUTF16" (some 0) with
  accessFlags := 48
  interfaces := #[]
  cf := some (fileOf pool9 12 #[.nestMembers #[627, 629, 369]] #[{ accessFlags := 0, nameIndex := 9, descriptorIndex := 10, attributes := #[] }, { accessFlags := 9, nameIndex := 109, descriptorIndex := 110, attributes := #[] }, { accessFlags := 9, nameIndex := 15, descriptorIndex := 16, attributes := #[] }, { accessFlags := 8, nameIndex := 113, descriptorIndex := 114, attributes := #[] }, { accessFlags := 8, nameIndex := 73, descriptorIndex := 74, attributes := #[] }, { accessFlags := 9, nameIndex := 50, descriptorIndex := 51, attributes := #[] }, { accessFlags := 9, nameIndex := 121, descriptorIndex := 122, attributes := #[] }, { accessFlags := 8, nameIndex := 261, descriptorIndex := 262, attributes := #[] }, { accessFlags := 9, nameIndex := 117, descriptorIndex := 122, attributes := #[] }, { accessFlags := 9, nameIndex := 117, descriptorIndex := 118, attributes := #[] }, { accessFlags := 9, nameIndex := 392, descriptorIndex := 74, attributes := #[] }, { accessFlags := 9, nameIndex := 69, descriptorIndex := 70, attributes := #[] }] 48 6 #[] #[{ accessFlags := 26, nameIndex := 61, descriptorIndex := 62, attributes := #[] }, { accessFlags := 26, nameIndex := 65, descriptorIndex := 62, attributes := #[] }, { accessFlags := 24, nameIndex := 430, descriptorIndex := 62, attributes := #[] }, { accessFlags := 4120, nameIndex := 46, descriptorIndex := 47, attributes := #[] }])
  fields := #[{ name := "HI_BYTE_SHIFT", type := .int, accessFlags := 26, slot := 0, constantValue := 0 }, { name := "LO_BYTE_SHIFT", type := .int, accessFlags := 26, slot := 1, constantValue := 0 }, { name := "MAX_LENGTH", type := .int, accessFlags := 24, slot := 2, constantValue := 0 }, { name := "$assertionsDisabled", type := .boolean, accessFlags := 4120, slot := 3, constantValue := 0 }]
  methods := #[k9m0, k9m1, k9m2, k9m3, k9m4, k9m5, k9m6, k9m7, k9m8, k9m9, k9m10, k9m11]
  instanceTypes := #[]
  staticTypes := #[.int, .int, .int, .boolean]
  resolved := Array.replicate 635 none
  statics := some 1 }

def pool10 : Array CpInfo := pool [(1, .class_ 2), (0, u "java/lang/String"), (1, .class_ 6), (1, u "java/lang/Object"), (0, u "<init>"), (0, u "()V"), (0, .methodref 1 10), (0, .nameAndType 11 12), (0, u "checkIndex"), (0, u "(II)V"), (1, .class_ 16), (1, u "java/lang/StringLatin1"), (36, u "([BI)C"), (67, u "$assertionsDisabled"), (0, u "Z"), (98, .class_ 223), (1, u "java/lang/StringLatin1$LinesSpliterator"), (28, u "charAt"), (137, .class_ 391), (0, u "java/lang/StringLatin1$CharsSpliterator")] 3

def k10m0 : Method := { name := "<init>", desc := "()V", sig := { parameters := [], returnType := none }, accessFlags := 0, code := none }
def k10c1 : Code := { maxStack := 2, maxLocals := 2, code := jdk_43_method_2_code, exceptionTable := #[], attributes := #[] }
def k10m1 : Method := { name := "charAt", desc := "([BI)C", sig := { parameters := [(.array .byte), .int], returnType := some .char }, accessFlags := 9, code := some k10c1 }
/-- java/lang/StringLatin1 -/
def k10 : Class := { plain "java/lang/StringLatin1" (some 0) with
  accessFlags := 48
  interfaces := #[]
  cf := some (fileOf pool10 14 #[.nestMembers #[390, 221]] #[{ accessFlags := 0, nameIndex := 7, descriptorIndex := 8, attributes := #[] }, { accessFlags := 9, nameIndex := 252, descriptorIndex := 53, attributes := #[] }] 48 4 #[] #[{ accessFlags := 4120, nameIndex := 121, descriptorIndex := 122, attributes := #[] }])
  fields := #[{ name := "$assertionsDisabled", type := .boolean, accessFlags := 4120, slot := 0, constantValue := 0 }]
  methods := #[k10m0, k10m1]
  instanceTypes := #[]
  staticTypes := #[.boolean]
  resolved := Array.replicate 395 none
  statics := none }

def pool11 : Array CpInfo := pool [(2, .class_ 4), (1, u "java/lang/Object"), (0, u "<init>"), (0, u "()V"), (17, .class_ 26), (1, u "jdk/internal/util/Preconditions"), (6, u "checkIndex"), (21, .class_ 56), (0, u "jdk/internal/util/Preconditions$4"), (57, .class_ 115), (0, u "jdk/internal/util/Preconditions$1"), (7, u "SIOOBE_FORMATTER"), (0, u "Ljava/util/function/BiFunction;"), (0, .class_ 126), (0, u "jdk/internal/util/Preconditions$2"), (3, u "AIOOBE_FORMATTER"), (0, .class_ 132), (0, u "jdk/internal/util/Preconditions$3"), (3, u "IOOBE_FORMATTER"), (41, u "(IILjava/util/function/BiFunction;)I")] 15

def k11m0 : Method := { name := "<init>", desc := "()V", sig := { parameters := [], returnType := none }, accessFlags := 1, code := none }
def k11c1 : Code := { maxStack := 3, maxLocals := 3, code := jdk_41_method_11_code, exceptionTable := #[], attributes := #[] }
def k11m1 : Method := { name := "checkIndex", desc := "(IILjava/util/function/BiFunction;)I", sig := { parameters := [.int, .int, (.object "java/util/function/BiFunction")], returnType := some .int }, accessFlags := 9, code := some k11c1 }
/-- jdk/internal/util/Preconditions -/
def k11 : Class := { plain "jdk/internal/util/Preconditions" (some 0) with
  accessFlags := 33
  interfaces := #[]
  cf := some (fileOf pool11 24 #[.nestMembers #[55, 131, 125, 114]] #[{ accessFlags := 1, nameIndex := 5, descriptorIndex := 6, attributes := #[] }, { accessFlags := 9, nameIndex := 33, descriptorIndex := 178, attributes := #[] }] 33 2 #[] #[{ accessFlags := 25, nameIndex := 123, descriptorIndex := 124, attributes := #[] }, { accessFlags := 25, nameIndex := 130, descriptorIndex := 124, attributes := #[] }, { accessFlags := 25, nameIndex := 136, descriptorIndex := 124, attributes := #[] }])
  fields := #[{ name := "SIOOBE_FORMATTER", type := (.object "java/util/function/BiFunction"), accessFlags := 25, slot := 0, constantValue := 0 }, { name := "AIOOBE_FORMATTER", type := (.object "java/util/function/BiFunction"), accessFlags := 25, slot := 1, constantValue := 0 }, { name := "IOOBE_FORMATTER", type := (.object "java/util/function/BiFunction"), accessFlags := 25, slot := 2, constantValue := 0 }]
  methods := #[k11m0, k11m1]
  instanceTypes := #[]
  staticTypes := #[(.object "java/util/function/BiFunction"), (.object "java/util/function/BiFunction"), (.object "java/util/function/BiFunction")]
  resolved := Array.replicate 194 none
  statics := some 2 }

def pool12 : Array CpInfo := pool [(1, .class_ 2), (0, u "java/lang/Character"), (18, u "value"), (0, u "C"), (19, .class_ 44), (1, u "java/lang/Object"), (3, .class_ 50), (1, u "java/lang/Character$CharacterCache"), (30, u "(C)Z"), (32, u "(I)Z"), (151, .methodref 1 267), (0, .nameAndType 268 114), (0, u "isISOControl"), (15, u "$assertionsDisabled"), (0, u "Z"), (21, .class_ 309), (1, u "java/lang/Character$UnicodeBlock"), (73, u "TYPE"), (0, u "Ljava/lang/Class;"), (0, .class_ 386), (0, u "java/io/Serializable"), (0, .class_ 388), (0, u "java/lang/Comparable"), (0, .class_ 390), (0, u "java/lang/constant/Constable"), (0, u "MIN_RADIX"), (0, u "I"), (2, u "MAX_RADIX"), (1, u "MIN_VALUE"), (1, u "MAX_VALUE"), (3, u "UNASSIGNED"), (0, u "B"), (0, u "UPPERCASE_LETTER"), (1, u "LOWERCASE_LETTER"), (0, u "TITLECASE_LETTER"), (1, u "MODIFIER_LETTER"), (1, u "OTHER_LETTER"), (1, u "NON_SPACING_MARK"), (1, u "ENCLOSING_MARK"), (1, u "COMBINING_SPACING_MARK"), (1, u "DECIMAL_DIGIT_NUMBER"), (1, u "LETTER_NUMBER"), (1, u "OTHER_NUMBER"), (1, u "SPACE_SEPARATOR"), (1, u "LINE_SEPARATOR"), (1, u "PARAGRAPH_SEPARATOR"), (1, u "CONTROL"), (1, u "FORMAT"), (1, u "PRIVATE_USE"), (1, u "SURROGATE"), (1, u "DASH_PUNCTUATION"), (1, u "START_PUNCTUATION"), (1, u "END_PUNCTUATION"), (1, u "CONNECTOR_PUNCTUATION"), (1, u "OTHER_PUNCTUATION"), (1, u "MATH_SYMBOL"), (1, u "CURRENCY_SYMBOL"), (1, u "MODIFIER_SYMBOL"), (1, u "OTHER_SYMBOL"), (1, u "INITIAL_QUOTE_PUNCTUATION"), (1, u "FINAL_QUOTE_PUNCTUATION"), (1, u "ERROR"), (1, u "DIRECTIONALITY_UNDEFINED"), (0, u "DIRECTIONALITY_LEFT_TO_RIGHT"), (0, u "DIRECTIONALITY_RIGHT_TO_LEFT"), (0, u "DIRECTIONALITY_RIGHT_TO_LEFT_ARABIC"), (0, u "DIRECTIONALITY_EUROPEAN_NUMBER"), (0, u "DIRECTIONALITY_EUROPEAN_NUMBER_SEPARATOR"), (0, u "DIRECTIONALITY_EUROPEAN_NUMBER_TERMINATOR"), (0, u "DIRECTIONALITY_ARABIC_NUMBER"), (0, u "DIRECTIONALITY_COMMON_NUMBER_SEPARATOR"), (0, u "DIRECTIONALITY_NONSPACING_MARK"), (0, u "DIRECTIONALITY_BOUNDARY_NEUTRAL"), (0, u "DIRECTIONALITY_PARAGRAPH_SEPARATOR"), (0, u "DIRECTIONALITY_SEGMENT_SEPARATOR"), (0, u "DIRECTIONALITY_WHITESPACE"), (0, u "DIRECTIONALITY_OTHER_NEUTRALS"), (0, u "DIRECTIONALITY_LEFT_TO_RIGHT_EMBEDDING"), (0, u "DIRECTIONALITY_LEFT_TO_RIGHT_OVERRIDE"), (0, u "DIRECTIONALITY_RIGHT_TO_LEFT_EMBEDDING"), (0, u "DIRECTIONALITY_RIGHT_TO_LEFT_OVERRIDE"), (1, u "DIRECTIONALITY_POP_DIRECTIONAL_FORMAT"), (0, u "DIRECTIONALITY_LEFT_TO_RIGHT_ISOLATE"), (0, u "DIRECTIONALITY_RIGHT_TO_LEFT_ISOLATE"), (0, u "DIRECTIONALITY_FIRST_STRONG_ISOLATE"), (0, u "DIRECTIONALITY_POP_DIRECTIONAL_ISOLATE"), (0, u "MIN_HIGH_SURROGATE"), (0, u "MAX_HIGH_SURROGATE"), (1, u "MIN_LOW_SURROGATE"), (0, u "MAX_LOW_SURROGATE"), (1, u "MIN_SURROGATE"), (0, u "MAX_SURROGATE"), (0, u "MIN_SUPPLEMENTARY_CODE_POINT"), (0, u "MIN_CODE_POINT"), (0, u "MAX_CODE_POINT"), (1, u "serialVersionUID"), (0, u "J"), (2, u "SIZE"), (0, u "BYTES"), (88, .class_ 596), (0, u "java/lang/Character$UnicodeScript"), (0, .class_ 598), (0, u "java/lang/Character$Subset")] 5

def k12c0 : Code := { maxStack := 1, maxLocals := 1, code := jdk_89_method_88_code, exceptionTable := #[], attributes := #[] }
def k12m0 : Method := { name := "isISOControl", desc := "(C)Z", sig := { parameters := [.char], returnType := some .boolean }, accessFlags := 9, code := some k12c0 }
def k12c1 : Code := { maxStack := 2, maxLocals := 1, code := jdk_89_method_89_code, exceptionTable := #[], attributes := #[] }
def k12m1 : Method := { name := "isISOControl", desc := "(I)Z", sig := { parameters := [.int], returnType := some .boolean }, accessFlags := 9, code := some k12c1 }
/-- java/lang/Character -/
def k12 : Class := { plain "java/lang/Character" (some 0) with
  accessFlags := 49
  interfaces := #[2, 3, 5]
  cf := some (fileOf pool12 1 #[.nestMembers #[48, 595, 307, 597]] #[{ accessFlags := 9, nameIndex := 268, descriptorIndex := 81, attributes := #[] }, { accessFlags := 9, nameIndex := 268, descriptorIndex := 114, attributes := #[] }] 49 42 #[385, 387, 389] #[{ accessFlags := 25, nameIndex := 391, descriptorIndex := 392, attributes := #[] }, { accessFlags := 25, nameIndex := 395, descriptorIndex := 392, attributes := #[] }, { accessFlags := 25, nameIndex := 397, descriptorIndex := 22, attributes := #[] }, { accessFlags := 25, nameIndex := 399, descriptorIndex := 22, attributes := #[] }, { accessFlags := 25, nameIndex := 383, descriptorIndex := 384, attributes := #[] }, { accessFlags := 25, nameIndex := 403, descriptorIndex := 404, attributes := #[] }, { accessFlags := 25, nameIndex := 405, descriptorIndex := 404, attributes := #[] }, { accessFlags := 25, nameIndex := 407, descriptorIndex := 404, attributes := #[] }, { accessFlags := 25, nameIndex := 408, descriptorIndex := 404, attributes := #[] }, { accessFlags := 25, nameIndex := 410, descriptorIndex := 404, attributes := #[] }, { accessFlags := 25, nameIndex := 412, descriptorIndex := 404, attributes := #[] }, { accessFlags := 25, nameIndex := 414, descriptorIndex := 404, attributes := #[] }, { accessFlags := 25, nameIndex := 416, descriptorIndex := 404, attributes := #[] }, { accessFlags := 25, nameIndex := 418, descriptorIndex := 404, attributes := #[] }, { accessFlags := 25, nameIndex := 420, descriptorIndex := 404, attributes := #[] }, { accessFlags := 25, nameIndex := 422, descriptorIndex := 404, attributes := #[] }, { accessFlags := 25, nameIndex := 424, descriptorIndex := 404, attributes := #[] }, { accessFlags := 25, nameIndex := 426, descriptorIndex := 404, attributes := #[] }, { accessFlags := 25, nameIndex := 428, descriptorIndex := 404, attributes := #[] }, { accessFlags := 25, nameIndex := 430, descriptorIndex := 404, attributes := #[] }, { accessFlags := 25, nameIndex := 432, descriptorIndex := 404, attributes := #[] }, { accessFlags := 25, nameIndex := 434, descriptorIndex := 404, attributes := #[] }, { accessFlags := 25, nameIndex := 436, descriptorIndex := 404, attributes := #[] }, { accessFlags := 25, nameIndex := 438, descriptorIndex := 404, attributes := #[] }, { accessFlags := 25, nameIndex := 440, descriptorIndex := 404, attributes := #[] }, { accessFlags := 25, nameIndex := 442, descriptorIndex := 404, attributes := #[] }, { accessFlags := 25, nameIndex := 444, descriptorIndex := 404, attributes := #[] }, { accessFlags := 25, nameIndex := 446, descriptorIndex := 404, attributes := #[] }, { accessFlags := 25, nameIndex := 448, descriptorIndex := 404, attributes := #[] }, { accessFlags := 25, nameIndex := 450, descriptorIndex := 404, attributes := #[] }, { accessFlags := 25, nameIndex := 452, descriptorIndex := 404, attributes := #[] }, { accessFlags := 25, nameIndex := 454, descriptorIndex := 404, attributes := #[] }, { accessFlags := 25, nameIndex := 456, descriptorIndex := 404, attributes := #[] }, { accessFlags := 25, nameIndex := 458, descriptorIndex := 404, attributes := #[] }, { accessFlags := 25, nameIndex := 460, descriptorIndex := 404, attributes := #[] }, { accessFlags := 24, nameIndex := 462, descriptorIndex := 392, attributes := #[] }, { accessFlags := 25, nameIndex := 464, descriptorIndex := 404, attributes := #[] }, { accessFlags := 25, nameIndex := 465, descriptorIndex := 404, attributes := #[] }, { accessFlags := 25, nameIndex := 466, descriptorIndex := 404, attributes := #[] }, { accessFlags := 25, nameIndex := 467, descriptorIndex := 404, attributes := #[] }, { accessFlags := 25, nameIndex := 468, descriptorIndex := 404, attributes := #[] }, { accessFlags := 25, nameIndex := 469, descriptorIndex := 404, attributes := #[] }, { accessFlags := 25, nameIndex := 470, descriptorIndex := 404, attributes := #[] }, { accessFlags := 25, nameIndex := 471, descriptorIndex := 404, attributes := #[] }, { accessFlags := 25, nameIndex := 472, descriptorIndex := 404, attributes := #[] }, { accessFlags := 25, nameIndex := 473, descriptorIndex := 404, attributes := #[] }, { accessFlags := 25, nameIndex := 474, descriptorIndex := 404, attributes := #[] }, { accessFlags := 25, nameIndex := 475, descriptorIndex := 404, attributes := #[] }, { accessFlags := 25, nameIndex := 476, descriptorIndex := 404, attributes := #[] }, { accessFlags := 25, nameIndex := 477, descriptorIndex := 404, attributes := #[] }, { accessFlags := 25, nameIndex := 478, descriptorIndex := 404, attributes := #[] }, { accessFlags := 25, nameIndex := 479, descriptorIndex := 404, attributes := #[] }, { accessFlags := 25, nameIndex := 480, descriptorIndex := 404, attributes := #[] }, { accessFlags := 25, nameIndex := 481, descriptorIndex := 404, attributes := #[] }, { accessFlags := 25, nameIndex := 482, descriptorIndex := 404, attributes := #[] }, { accessFlags := 25, nameIndex := 484, descriptorIndex := 404, attributes := #[] }, { accessFlags := 25, nameIndex := 485, descriptorIndex := 404, attributes := #[] }, { accessFlags := 25, nameIndex := 486, descriptorIndex := 404, attributes := #[] }, { accessFlags := 25, nameIndex := 487, descriptorIndex := 404, attributes := #[] }, { accessFlags := 25, nameIndex := 488, descriptorIndex := 404, attributes := #[] }, { accessFlags := 25, nameIndex := 489, descriptorIndex := 22, attributes := #[] }, { accessFlags := 25, nameIndex := 490, descriptorIndex := 22, attributes := #[] }, { accessFlags := 25, nameIndex := 492, descriptorIndex := 22, attributes := #[] }, { accessFlags := 25, nameIndex := 493, descriptorIndex := 22, attributes := #[] }, { accessFlags := 25, nameIndex := 495, descriptorIndex := 22, attributes := #[] }, { accessFlags := 25, nameIndex := 496, descriptorIndex := 22, attributes := #[] }, { accessFlags := 25, nameIndex := 497, descriptorIndex := 392, attributes := #[] }, { accessFlags := 25, nameIndex := 498, descriptorIndex := 392, attributes := #[] }, { accessFlags := 25, nameIndex := 499, descriptorIndex := 392, attributes := #[] }, { accessFlags := 18, nameIndex := 21, descriptorIndex := 22, attributes := #[] }, { accessFlags := 26, nameIndex := 501, descriptorIndex := 502, attributes := #[] }, { accessFlags := 25, nameIndex := 505, descriptorIndex := 392, attributes := #[] }, { accessFlags := 25, nameIndex := 506, descriptorIndex := 392, attributes := #[] }, { accessFlags := 4120, nameIndex := 284, descriptorIndex := 285, attributes := #[] }])
  fields := #[{ name := "MIN_RADIX", type := .int, accessFlags := 25, slot := 0, constantValue := 0 }, { name := "MAX_RADIX", type := .int, accessFlags := 25, slot := 1, constantValue := 0 }, { name := "MIN_VALUE", type := .char, accessFlags := 25, slot := 2, constantValue := 0 }, { name := "MAX_VALUE", type := .char, accessFlags := 25, slot := 3, constantValue := 0 }, { name := "TYPE", type := (.object "java/lang/Class"), accessFlags := 25, slot := 4, constantValue := 0 }, { name := "UNASSIGNED", type := .byte, accessFlags := 25, slot := 5, constantValue := 0 }, { name := "UPPERCASE_LETTER", type := .byte, accessFlags := 25, slot := 6, constantValue := 0 }, { name := "LOWERCASE_LETTER", type := .byte, accessFlags := 25, slot := 7, constantValue := 0 }, { name := "TITLECASE_LETTER", type := .byte, accessFlags := 25, slot := 8, constantValue := 0 }, { name := "MODIFIER_LETTER", type := .byte, accessFlags := 25, slot := 9, constantValue := 0 }, { name := "OTHER_LETTER", type := .byte, accessFlags := 25, slot := 10, constantValue := 0 }, { name := "NON_SPACING_MARK", type := .byte, accessFlags := 25, slot := 11, constantValue := 0 }, { name := "ENCLOSING_MARK", type := .byte, accessFlags := 25, slot := 12, constantValue := 0 }, { name := "COMBINING_SPACING_MARK", type := .byte, accessFlags := 25, slot := 13, constantValue := 0 }, { name := "DECIMAL_DIGIT_NUMBER", type := .byte, accessFlags := 25, slot := 14, constantValue := 0 }, { name := "LETTER_NUMBER", type := .byte, accessFlags := 25, slot := 15, constantValue := 0 }, { name := "OTHER_NUMBER", type := .byte, accessFlags := 25, slot := 16, constantValue := 0 }, { name := "SPACE_SEPARATOR", type := .byte, accessFlags := 25, slot := 17, constantValue := 0 }, { name := "LINE_SEPARATOR", type := .byte, accessFlags := 25, slot := 18, constantValue := 0 }, { name := "PARAGRAPH_SEPARATOR", type := .byte, accessFlags := 25, slot := 19, constantValue := 0 }, { name := "CONTROL", type := .byte, accessFlags := 25, slot := 20, constantValue := 0 }, { name := "FORMAT", type := .byte, accessFlags := 25, slot := 21, constantValue := 0 }, { name := "PRIVATE_USE", type := .byte, accessFlags := 25, slot := 22, constantValue := 0 }, { name := "SURROGATE", type := .byte, accessFlags := 25, slot := 23, constantValue := 0 }, { name := "DASH_PUNCTUATION", type := .byte, accessFlags := 25, slot := 24, constantValue := 0 }, { name := "START_PUNCTUATION", type := .byte, accessFlags := 25, slot := 25, constantValue := 0 }, { name := "END_PUNCTUATION", type := .byte, accessFlags := 25, slot := 26, constantValue := 0 }, { name := "CONNECTOR_PUNCTUATION", type := .byte, accessFlags := 25, slot := 27, constantValue := 0 }, { name := "OTHER_PUNCTUATION", type := .byte, accessFlags := 25, slot := 28, constantValue := 0 }, { name := "MATH_SYMBOL", type := .byte, accessFlags := 25, slot := 29, constantValue := 0 }, { name := "CURRENCY_SYMBOL", type := .byte, accessFlags := 25, slot := 30, constantValue := 0 }, { name := "MODIFIER_SYMBOL", type := .byte, accessFlags := 25, slot := 31, constantValue := 0 }, { name := "OTHER_SYMBOL", type := .byte, accessFlags := 25, slot := 32, constantValue := 0 }, { name := "INITIAL_QUOTE_PUNCTUATION", type := .byte, accessFlags := 25, slot := 33, constantValue := 0 }, { name := "FINAL_QUOTE_PUNCTUATION", type := .byte, accessFlags := 25, slot := 34, constantValue := 0 }, { name := "ERROR", type := .int, accessFlags := 24, slot := 35, constantValue := 0 }, { name := "DIRECTIONALITY_UNDEFINED", type := .byte, accessFlags := 25, slot := 36, constantValue := 0 }, { name := "DIRECTIONALITY_LEFT_TO_RIGHT", type := .byte, accessFlags := 25, slot := 37, constantValue := 0 }, { name := "DIRECTIONALITY_RIGHT_TO_LEFT", type := .byte, accessFlags := 25, slot := 38, constantValue := 0 }, { name := "DIRECTIONALITY_RIGHT_TO_LEFT_ARABIC", type := .byte, accessFlags := 25, slot := 39, constantValue := 0 }, { name := "DIRECTIONALITY_EUROPEAN_NUMBER", type := .byte, accessFlags := 25, slot := 40, constantValue := 0 }, { name := "DIRECTIONALITY_EUROPEAN_NUMBER_SEPARATOR", type := .byte, accessFlags := 25, slot := 41, constantValue := 0 }, { name := "DIRECTIONALITY_EUROPEAN_NUMBER_TERMINATOR", type := .byte, accessFlags := 25, slot := 42, constantValue := 0 }, { name := "DIRECTIONALITY_ARABIC_NUMBER", type := .byte, accessFlags := 25, slot := 43, constantValue := 0 }, { name := "DIRECTIONALITY_COMMON_NUMBER_SEPARATOR", type := .byte, accessFlags := 25, slot := 44, constantValue := 0 }, { name := "DIRECTIONALITY_NONSPACING_MARK", type := .byte, accessFlags := 25, slot := 45, constantValue := 0 }, { name := "DIRECTIONALITY_BOUNDARY_NEUTRAL", type := .byte, accessFlags := 25, slot := 46, constantValue := 0 }, { name := "DIRECTIONALITY_PARAGRAPH_SEPARATOR", type := .byte, accessFlags := 25, slot := 47, constantValue := 0 }, { name := "DIRECTIONALITY_SEGMENT_SEPARATOR", type := .byte, accessFlags := 25, slot := 48, constantValue := 0 }, { name := "DIRECTIONALITY_WHITESPACE", type := .byte, accessFlags := 25, slot := 49, constantValue := 0 }, { name := "DIRECTIONALITY_OTHER_NEUTRALS", type := .byte, accessFlags := 25, slot := 50, constantValue := 0 }, { name := "DIRECTIONALITY_LEFT_TO_RIGHT_EMBEDDING", type := .byte, accessFlags := 25, slot := 51, constantValue := 0 }, { name := "DIRECTIONALITY_LEFT_TO_RIGHT_OVERRIDE", type := .byte, accessFlags := 25, slot := 52, constantValue := 0 }, { name := "DIRECTIONALITY_RIGHT_TO_LEFT_EMBEDDING", type := .byte, accessFlags := 25, slot := 53, constantValue := 0 }, { name := "DIRECTIONALITY_RIGHT_TO_LEFT_OVERRIDE", type := .byte, accessFlags := 25, slot := 54, constantValue := 0 }, { name := "DIRECTIONALITY_POP_DIRECTIONAL_FORMAT", type := .byte, accessFlags := 25, slot := 55, constantValue := 0 }, { name := "DIRECTIONALITY_LEFT_TO_RIGHT_ISOLATE", type := .byte, accessFlags := 25, slot := 56, constantValue := 0 }, { name := "DIRECTIONALITY_RIGHT_TO_LEFT_ISOLATE", type := .byte, accessFlags := 25, slot := 57, constantValue := 0 }, { name := "DIRECTIONALITY_FIRST_STRONG_ISOLATE", type := .byte, accessFlags := 25, slot := 58, constantValue := 0 }, { name := "DIRECTIONALITY_POP_DIRECTIONAL_ISOLATE", type := .byte, accessFlags := 25, slot := 59, constantValue := 0 }, { name := "MIN_HIGH_SURROGATE", type := .char, accessFlags := 25, slot := 60, constantValue := 0 }, { name := "MAX_HIGH_SURROGATE", type := .char, accessFlags := 25, slot := 61, constantValue := 0 }, { name := "MIN_LOW_SURROGATE", type := .char, accessFlags := 25, slot := 62, constantValue := 0 }, { name := "MAX_LOW_SURROGATE", type := .char, accessFlags := 25, slot := 63, constantValue := 0 }, { name := "MIN_SURROGATE", type := .char, accessFlags := 25, slot := 64, constantValue := 0 }, { name := "MAX_SURROGATE", type := .char, accessFlags := 25, slot := 65, constantValue := 0 }, { name := "MIN_SUPPLEMENTARY_CODE_POINT", type := .int, accessFlags := 25, slot := 66, constantValue := 0 }, { name := "MIN_CODE_POINT", type := .int, accessFlags := 25, slot := 67, constantValue := 0 }, { name := "MAX_CODE_POINT", type := .int, accessFlags := 25, slot := 68, constantValue := 0 }, { name := "value", type := .char, accessFlags := 18, slot := 0, constantValue := 0 }, { name := "serialVersionUID", type := .long, accessFlags := 26, slot := 69, constantValue := 0 }, { name := "SIZE", type := .int, accessFlags := 25, slot := 70, constantValue := 0 }, { name := "BYTES", type := .int, accessFlags := 25, slot := 71, constantValue := 0 }, { name := "$assertionsDisabled", type := .boolean, accessFlags := 4120, slot := 72, constantValue := 0 }]
  methods := #[k12m0, k12m1]
  instanceTypes := #[.char]
  staticTypes := #[.int, .int, .char, .char, (.object "java/lang/Class"), .byte, .byte, .byte, .byte, .byte, .byte, .byte, .byte, .byte, .byte, .byte, .byte, .byte, .byte, .byte, .byte, .byte, .byte, .byte, .byte, .byte, .byte, .byte, .byte, .byte, .byte, .byte, .byte, .byte, .byte, .int, .byte, .byte, .byte, .byte, .byte, .byte, .byte, .byte, .byte, .byte, .byte, .byte, .byte, .byte, .byte, .byte, .byte, .byte, .byte, .byte, .byte, .byte, .byte, .byte, .char, .char, .char, .char, .char, .char, .int, .int, .int, .long, .int, .int, .boolean]
  resolved := Array.replicate 604 none
  statics := none }

def pool13 : Array CpInfo := pool [(9, u "<init>"), (6, .class_ 18), (1, u "java/lang/Object"), (0, u "()V"), (1, .class_ 23), (1, u "jdk/internal/util/ArraysSupport"), (0, u "LOG2_ARRAY_LONG_INDEX_SCALE"), (0, u "I"), (2, u "U"), (0, u "Ljdk/internal/misc/Unsafe;"), (8, u "BIG_ENDIAN"), (0, u "Z"), (8, u "LOG2_BYTE_BIT_SIZE"), (4, u "LOG2_ARRAY_INT_INDEX_SCALE"), (54, u "JLA"), (0, u "Ljdk/internal/access/JavaLangAccess;"), (11, u "LOG2_ARRAY_BOOLEAN_INDEX_SCALE"), (9, u "LOG2_ARRAY_BYTE_INDEX_SCALE"), (5, u "LOG2_ARRAY_CHAR_INDEX_SCALE"), (5, u "LOG2_ARRAY_SHORT_INDEX_SCALE"), (18, u "LOG2_ARRAY_FLOAT_INDEX_SCALE"), (24, u "LOG2_ARRAY_DOUBLE_INDEX_SCALE"), (89, u "T_BOOLEAN"), (2, u "T_CHAR"), (1, u "T_FLOAT"), (1, u "T_DOUBLE"), (1, u "T_BYTE"), (1, u "T_SHORT"), (1, u "T_INT"), (1, u "T_LONG"), (1, u "SOFT_MAX_ARRAY_LENGTH")] 83

def k13m0 : Method := { name := "<init>", desc := "()V", sig := { parameters := [], returnType := none }, accessFlags := 2, code := none }
/-- jdk/internal/util/ArraysSupport -/
def k13 : Class := { plain "jdk/internal/util/ArraysSupport" (some 0) with
  accessFlags := 33
  interfaces := #[]
  cf := some (fileOf pool13 21 #[] #[{ accessFlags := 2, nameIndex := 9, descriptorIndex := 19, attributes := #[] }] 33 16 #[] #[{ accessFlags := 24, nameIndex := 28, descriptorIndex := 29, attributes := #[] }, { accessFlags := 26, nameIndex := 38, descriptorIndex := 39, attributes := #[] }, { accessFlags := 25, nameIndex := 121, descriptorIndex := 25, attributes := #[] }, { accessFlags := 25, nameIndex := 131, descriptorIndex := 25, attributes := #[] }, { accessFlags := 25, nameIndex := 137, descriptorIndex := 25, attributes := #[] }, { accessFlags := 25, nameIndex := 143, descriptorIndex := 25, attributes := #[] }, { accessFlags := 25, nameIndex := 53, descriptorIndex := 25, attributes := #[] }, { accessFlags := 25, nameIndex := 24, descriptorIndex := 25, attributes := #[] }, { accessFlags := 25, nameIndex := 162, descriptorIndex := 25, attributes := #[] }, { accessFlags := 25, nameIndex := 187, descriptorIndex := 25, attributes := #[] }, { accessFlags := 26, nameIndex := 48, descriptorIndex := 25, attributes := #[] }, { accessFlags := 25, nameIndex := 277, descriptorIndex := 25, attributes := #[] }, { accessFlags := 25, nameIndex := 280, descriptorIndex := 25, attributes := #[] }, { accessFlags := 25, nameIndex := 282, descriptorIndex := 25, attributes := #[] }, { accessFlags := 25, nameIndex := 284, descriptorIndex := 25, attributes := #[] }, { accessFlags := 25, nameIndex := 286, descriptorIndex := 25, attributes := #[] }, { accessFlags := 25, nameIndex := 288, descriptorIndex := 25, attributes := #[] }, { accessFlags := 25, nameIndex := 290, descriptorIndex := 25, attributes := #[] }, { accessFlags := 25, nameIndex := 292, descriptorIndex := 25, attributes := #[] }, { accessFlags := 26, nameIndex := 108, descriptorIndex := 109, attributes := #[] }, { accessFlags := 25, nameIndex := 294, descriptorIndex := 25, attributes := #[] }])
  fields := #[{ name := "U", type := (.object "jdk/internal/misc/Unsafe"), accessFlags := 24, slot := 0, constantValue := 0 }, { name := "BIG_ENDIAN", type := .boolean, accessFlags := 26, slot := 1, constantValue := 0 }, { name := "LOG2_ARRAY_BOOLEAN_INDEX_SCALE", type := .int, accessFlags := 25, slot := 2, constantValue := 0 }, { name := "LOG2_ARRAY_BYTE_INDEX_SCALE", type := .int, accessFlags := 25, slot := 3, constantValue := 0 }, { name := "LOG2_ARRAY_CHAR_INDEX_SCALE", type := .int, accessFlags := 25, slot := 4, constantValue := 0 }, { name := "LOG2_ARRAY_SHORT_INDEX_SCALE", type := .int, accessFlags := 25, slot := 5, constantValue := 0 }, { name := "LOG2_ARRAY_INT_INDEX_SCALE", type := .int, accessFlags := 25, slot := 6, constantValue := 0 }, { name := "LOG2_ARRAY_LONG_INDEX_SCALE", type := .int, accessFlags := 25, slot := 7, constantValue := 0 }, { name := "LOG2_ARRAY_FLOAT_INDEX_SCALE", type := .int, accessFlags := 25, slot := 8, constantValue := 0 }, { name := "LOG2_ARRAY_DOUBLE_INDEX_SCALE", type := .int, accessFlags := 25, slot := 9, constantValue := 0 }, { name := "LOG2_BYTE_BIT_SIZE", type := .int, accessFlags := 26, slot := 10, constantValue := 0 }, { name := "T_BOOLEAN", type := .int, accessFlags := 25, slot := 11, constantValue := 0 }, { name := "T_CHAR", type := .int, accessFlags := 25, slot := 12, constantValue := 0 }, { name := "T_FLOAT", type := .int, accessFlags := 25, slot := 13, constantValue := 0 }, { name := "T_DOUBLE", type := .int, accessFlags := 25, slot := 14, constantValue := 0 }, { name := "T_BYTE", type := .int, accessFlags := 25, slot := 15, constantValue := 0 }, { name := "T_SHORT", type := .int, accessFlags := 25, slot := 16, constantValue := 0 }, { name := "T_INT", type := .int, accessFlags := 25, slot := 17, constantValue := 0 }, { name := "T_LONG", type := .int, accessFlags := 25, slot := 18, constantValue := 0 }, { name := "JLA", type := (.object "jdk/internal/access/JavaLangAccess"), accessFlags := 26, slot := 19, constantValue := 0 }, { name := "SOFT_MAX_ARRAY_LENGTH", type := .int, accessFlags := 25, slot := 20, constantValue := 0 }]
  methods := #[k13m0]
  instanceTypes := #[]
  staticTypes := #[(.object "jdk/internal/misc/Unsafe"), .boolean, .int, .int, .int, .int, .int, .int, .int, .int, .int, .int, .int, .int, .int, .int, .int, .int, .int, (.object "jdk/internal/access/JavaLangAccess"), .int]
  resolved := Array.replicate 378 none
  statics := none }

def pool14 : Array CpInfo := pool [(1, u "java/lang/Cloneable"), (0, .class_ 1), (0, u "java/lang/Object"), (0, .class_ 3)] 3

/-- java/lang/Cloneable -/
def k14 : Class := { plain "java/lang/Cloneable" (some 0) with
  accessFlags := 1537
  interfaces := #[]
  cf := some (fileOf pool14 2 #[] #[] 1537 4 #[] #[])
  fields := #[]
  methods := #[]
  instanceTypes := #[]
  staticTypes := #[]
  resolved := Array.replicate 8 none
  statics := none }

/-- the primitive byte -/
def k15 : Class := { plain "byte" none with kind := .primitive 'B', accessFlags := 0x411 }
/-- [B -/
def k16 : Class := { plain "[B" (some 0) with kind := .array 15 .byte, interfaces := #[14, 2], accessFlags := 1041 }

/-- the primitive char -/
def k17 : Class := { plain "char" none with kind := .primitive 'C', accessFlags := 0x411 }
/-- [C -/
def k18 : Class := { plain "[C" (some 0) with kind := .array 17 .char, interfaces := #[14, 2], accessFlags := 1041 }

/-- the primitive int -/
def k19 : Class := { plain "int" none with kind := .primitive 'I', accessFlags := 0x411 }
/-- [I -/
def k20 : Class := { plain "[I" (some 0) with kind := .array 19 .int, interfaces := #[14, 2], accessFlags := 1041 }

def heap : Heap := #[{ cls := 7, slots := #[.long 0, .int 1, .null, .int 0, .null, .int 0, .int 0], vm := .statics 7 },
  { cls := 9, slots := #[.int 0, .int 8, .int 0, .int 1], vm := .statics 9 },
  { cls := 11, slots := #[.null, .null, .null], vm := .statics 11 }]
def classes : Array Class := #[k0, k1, k2, k3, k4, k5, k6, k7, k8, k9, k10, k11, k12, k13, k14, k15, k16, k17, k18, k19, k20]
def interned : List (Array UInt16 × Addr) := []
def slotsUsed : Nat := 14
def theMethod : MethodId := ⟨1, 3⟩
def args0 : Array Value := #[.int 2, .int 65, .int 66, .int 67, .int 68]
def aboutOver (below : List Frame) : State where
  vm := { classes := classes, interned := interned.toArray }
  heap := heap
  slotsUsed := slotsUsed
  threads := #[{ frames := .invoking theMethod args0 :: below }]
def below0 : List Frame := [.native { method := ⟨0, 0⟩, args := #[] }]
def about1 : State := aboutOver below0
def p0 : Program := .bare "" "" ""
def e0 : Env := launch0.env 0 0 0
theorem w_frames : about1.frames = Frame.invoking theMethod args0 :: below0 := rfl
set_option maxRecDepth 65536 in
theorem w_args : argsFit about1.vm theMethod args0 = true := by decide +kernel
set_option maxRecDepth 65536 in
theorem w_heap : heapFits about1 = true := by decide +kernel
set_option maxRecDepth 65536 in
theorem w_runnable : about1.curStatus? = some .runnable := by decide +kernel
set_option maxRecDepth 65536 in
theorem w_alone : about1.alone = true := by decide +kernel
set_option maxRecDepth 65536 in
theorem w_named : about1.methodNamed? x = some theMethod := by decide +kernel
set_option maxRecDepth 65536 in
theorem w_hears : about1.hears theMethod below0 = true := by decide +kernel
set_option maxRecDepth 65536 in
theorem w_ripe : about1.ripe theMethod args0 below0 = true := by decide +kernel
theorem w_running : about1.status = .running := rfl
set_option maxRecDepth 65536 in
theorem w_room : about1.hasRoom e0.platform room_1 = true :=
  launch0.hasRoom_least _ room_1 (by decide +kernel) (by decide +kernel) (by decide +kernel) (by decide +kernel) (by decide +kernel) (by decide +kernel)
theorem allAtoms_all (ts : List Jvm.Cond) (a : Array Jvm.Value) (st : Jvm.State) : (allAtoms ts).before a st = ts.all (fun c => c.before a st) := by
  induction ts with
  | nil => rfl
  | cons c t ih =>
    show (Jvm.Cond.and c (allAtoms t)).before a st = _
    rw [Jvm.Cond.before_and, ih, List.all_cons]
def words1 : List Jvm.Cond := Jvm.Cond.code x code maxLocals ret :: tables_1
/-- a 'code' word, met by the world's own term for the bytes: nothing is compared byte by byte -/
theorem code_word {y : MethodName} {bytes : ByteArray} {mx : Nat} {rt : Option FieldType} {a : Array Value} {s : State} {m : MethodId} {meth : Method} {c : Code} (h1 : s.methodNamed? y = some m) (h2 : s.vm.method? m = some meth) (h3 : meth.code = some c) (h4 : c.code = bytes)
    (h5 : (c.maxLocals == mx && c.exceptionTable.isEmpty && decide (c.maxStack ≤ mostOperands) && decide (meth.sig.returnType = rt) && !meth.locks && decide (parseMethodDescriptor y.desc = some meth.sig)) = true) : (Jvm.Cond.code y bytes mx rt).before a s = true := by
  simp only [Bool.and_eq_true, beq_iff_eq, Bool.not_eq_true', decide_eq_true_eq] at h5
  obtain ⟨⟨⟨⟨⟨g1, g2⟩, g3⟩, g4⟩, g5⟩, g6⟩ := h5
  simp [Cond.before, Cond.holds, Cond.value, h1, h2, h3, h4, g1, g2, g3, g4, g5, g6]
def isCode : Jvm.Cond → Bool
  | .code _ _ _ _ => true
  | _ => false
theorem all_split {L : List Jvm.Cond} {P : Jvm.Cond → Bool} (h1 : L.all (fun c => isCode c || P c) = true) (h2 : ∀ c ∈ L.filter isCode, P c = true) : L.all P = true := by
  refine List.all_eq_true.mpr fun c hc => ?_
  have h := List.all_eq_true.mp h1 c hc
  rcases Bool.eq_false_or_eq_true (isCode c) with hi | hi
  · exact h2 c (List.mem_filter.mpr ⟨hc, hi⟩)
  · simpa [hi] using h
set_option maxRecDepth 65536 in
theorem w_c0 : (Jvm.Cond.code x code maxLocals ret).before args0 about1 = true := code_word (m := ⟨1, 3⟩) (meth := k1m3) (c := k1c3) (by decide +kernel) rfl rfl rfl (by decide +kernel)
set_option maxRecDepth 65536 in
theorem w_c1 : (Jvm.Cond.code ({ cls := "com/example/yuletally/yuletally/ScreenLinesHoldsControlPinLaw", name := "draw", desc := "(I)C" } : Jvm.MethodName) method_3_code (1 : Nat) (Option.some Jvm.ClassFile.FieldType.char)).before args0 about1 = true := code_word (m := ⟨1, 2⟩) (meth := k1m2) (c := k1c2) (by decide +kernel) rfl rfl rfl (by decide +kernel)
set_option maxRecDepth 65536 in
theorem w_c2 : (Jvm.Cond.code ({ cls := "java/lang/String", name := "<init>", desc := "([C)V" } : Jvm.MethodName) jdk_42_method_3_code (2 : Nat) (Option.none : Option Jvm.ClassFile.FieldType)).before args0 about1 = true := code_word (m := ⟨7, 1⟩) (meth := k7m1) (c := k7c1) (by decide +kernel) rfl rfl rfl (by decide +kernel)
set_option maxRecDepth 65536 in
theorem w_c3 : (Jvm.Cond.code ({ cls := "java/lang/String", name := "<init>", desc := "([CIILjava/lang/Void;)V" } : Jvm.MethodName) jdk_42_method_149_code (6 : Nat) (Option.none : Option Jvm.ClassFile.FieldType)).before args0 about1 = true := code_word (m := ⟨7, 4⟩) (meth := k7m4) (c := k7c4) (by decide +kernel) rfl rfl rfl (by decide +kernel)
set_option maxRecDepth 65536 in
theorem w_c4 : (Jvm.Cond.code ({ cls := "java/lang/Object", name := "<init>", desc := "()V" } : Jvm.MethodName) object_method_1_code (1 : Nat) (Option.none : Option Jvm.ClassFile.FieldType)).before args0 about1 = true := code_word (m := ⟨0, 0⟩) (meth := k0m0) (c := k0c0) (by decide +kernel) rfl rfl rfl (by decide +kernel)
set_option maxRecDepth 65536 in
theorem w_c5 : (Jvm.Cond.code ({ cls := "com/example/yuletally/yuletally/ScreenLines", name := "holdsControl", desc := "(Ljava/lang/String;)Z" } : Jvm.MethodName) prog_11_method_8_code (2 : Nat) (Option.some Jvm.ClassFile.FieldType.boolean)).before args0 about1 = true := code_word (m := ⟨8, 1⟩) (meth := k8m1) (c := k8c1) (by decide +kernel) rfl rfl rfl (by decide +kernel)
set_option maxRecDepth 65536 in
theorem w_c6 : (Jvm.Cond.code ({ cls := "java/lang/String", name := "length", desc := "()I" } : Jvm.MethodName) jdk_42_method_54_code (1 : Nat) (Option.some Jvm.ClassFile.FieldType.int)).before args0 about1 = true := code_word (m := ⟨7, 2⟩) (meth := k7m2) (c := k7c2) (by decide +kernel) rfl rfl rfl (by decide +kernel)
set_option maxRecDepth 65536 in
theorem w_c7 : (Jvm.Cond.code ({ cls := "java/lang/String", name := "coder", desc := "()B" } : Jvm.MethodName) jdk_42_method_152_code (1 : Nat) (Option.some Jvm.ClassFile.FieldType.byte)).before args0 about1 = true := code_word (m := ⟨7, 5⟩) (meth := k7m5) (c := k7c5) (by decide +kernel) rfl rfl rfl (by decide +kernel)
set_option maxRecDepth 65536 in
theorem w_c8 : (Jvm.Cond.code ({ cls := "java/lang/StringUTF16", name := "compress", desc := "([CII)[B" } : Jvm.MethodName) jdk_52_method_16_code (6 : Nat) (Option.some (Jvm.ClassFile.FieldType.array Jvm.ClassFile.FieldType.byte))).before args0 about1 = true := code_word (m := ⟨9, 8⟩) (meth := k9m8) (c := k9c8) (by decide +kernel) rfl rfl rfl (by decide +kernel)
set_option maxRecDepth 65536 in
theorem w_c9 : (Jvm.Cond.code ({ cls := "java/lang/StringUTF16", name := "compress", desc := "([CI[BII)I" } : Jvm.MethodName) jdk_52_method_21_code (7 : Nat) (Option.some Jvm.ClassFile.FieldType.int)).before args0 about1 = true := code_word (m := ⟨9, 9⟩) (meth := k9m9) (c := k9c9) (by decide +kernel) rfl rfl rfl (by decide +kernel)
set_option maxRecDepth 65536 in
theorem w_c10 : (Jvm.Cond.code ({ cls := "java/lang/StringUTF16", name := "coderFromArrayLen", desc := "([BI)B" } : Jvm.MethodName) jdk_52_method_15_code (2 : Nat) (Option.some Jvm.ClassFile.FieldType.byte)).before args0 about1 = true := code_word (m := ⟨9, 7⟩) (meth := k9m7) (c := k9c7) (by decide +kernel) rfl rfl rfl (by decide +kernel)
set_option maxRecDepth 65536 in
theorem w_c11 : (Jvm.Cond.code ({ cls := "com/example/yuletally/yuletally/ScreenLinesHoldsControlPinLaw", name := "ctl", desc := "(C)Z" } : Jvm.MethodName) method_2_code (1 : Nat) (Option.some Jvm.ClassFile.FieldType.boolean)).before args0 about1 = true := code_word (m := ⟨1, 1⟩) (meth := k1m1) (c := k1c1) (by decide +kernel) rfl rfl rfl (by decide +kernel)
set_option maxRecDepth 65536 in
theorem w_c12 : (Jvm.Cond.code ({ cls := "java/lang/String", name := "charAt", desc := "(I)C" } : Jvm.MethodName) jdk_42_method_56_code (2 : Nat) (Option.some Jvm.ClassFile.FieldType.char)).before args0 about1 = true := code_word (m := ⟨7, 3⟩) (meth := k7m3) (c := k7c3) (by decide +kernel) rfl rfl rfl (by decide +kernel)
set_option maxRecDepth 65536 in
theorem w_c13 : (Jvm.Cond.code ({ cls := "java/lang/String", name := "isLatin1", desc := "()Z" } : Jvm.MethodName) jdk_42_method_154_code (1 : Nat) (Option.some Jvm.ClassFile.FieldType.boolean)).before args0 about1 = true := code_word (m := ⟨7, 6⟩) (meth := k7m6) (c := k7c6) (by decide +kernel) rfl rfl rfl (by decide +kernel)
set_option maxRecDepth 65536 in
theorem w_c14 : (Jvm.Cond.code ({ cls := "java/lang/StringLatin1", name := "charAt", desc := "([BI)C" } : Jvm.MethodName) jdk_43_method_2_code (2 : Nat) (Option.some Jvm.ClassFile.FieldType.char)).before args0 about1 = true := code_word (m := ⟨10, 1⟩) (meth := k10m1) (c := k10c1) (by decide +kernel) rfl rfl rfl (by decide +kernel)
set_option maxRecDepth 65536 in
theorem w_c15 : (Jvm.Cond.code ({ cls := "java/lang/String", name := "checkIndex", desc := "(II)V" } : Jvm.MethodName) jdk_42_method_155_code (2 : Nat) (Option.none : Option Jvm.ClassFile.FieldType)).before args0 about1 = true := code_word (m := ⟨7, 7⟩) (meth := k7m7) (c := k7c7) (by decide +kernel) rfl rfl rfl (by decide +kernel)
set_option maxRecDepth 65536 in
theorem w_c16 : (Jvm.Cond.code ({ cls := "jdk/internal/util/Preconditions", name := "checkIndex", desc := "(IILjava/util/function/BiFunction;)I" } : Jvm.MethodName) jdk_41_method_11_code (3 : Nat) (Option.some Jvm.ClassFile.FieldType.int)).before args0 about1 = true := code_word (m := ⟨11, 1⟩) (meth := k11m1) (c := k11c1) (by decide +kernel) rfl rfl rfl (by decide +kernel)
set_option maxRecDepth 65536 in
theorem w_c17 : (Jvm.Cond.code ({ cls := "java/lang/Character", name := "isISOControl", desc := "(C)Z" } : Jvm.MethodName) jdk_89_method_88_code (1 : Nat) (Option.some Jvm.ClassFile.FieldType.boolean)).before args0 about1 = true := code_word (m := ⟨12, 0⟩) (meth := k12m0) (c := k12c0) (by decide +kernel) rfl rfl rfl (by decide +kernel)
set_option maxRecDepth 65536 in
theorem w_c18 : (Jvm.Cond.code ({ cls := "java/lang/Character", name := "isISOControl", desc := "(I)Z" } : Jvm.MethodName) jdk_89_method_89_code (1 : Nat) (Option.some Jvm.ClassFile.FieldType.boolean)).before args0 about1 = true := code_word (m := ⟨12, 1⟩) (meth := k12m1) (c := k12c1) (by decide +kernel) rfl rfl rfl (by decide +kernel)
set_option maxRecDepth 65536 in
theorem w_c19 : (Jvm.Cond.code ({ cls := "java/lang/StringUTF16", name := "toBytes", desc := "([CII)[B" } : Jvm.MethodName) jdk_52_method_14_code (5 : Nat) (Option.some (Jvm.ClassFile.FieldType.array Jvm.ClassFile.FieldType.byte))).before args0 about1 = true := code_word (m := ⟨9, 6⟩) (meth := k9m6) (c := k9c6) (by decide +kernel) rfl rfl rfl (by decide +kernel)
set_option maxRecDepth 65536 in
theorem w_c20 : (Jvm.Cond.code ({ cls := "java/lang/StringUTF16", name := "newBytesFor", desc := "(I)[B" } : Jvm.MethodName) jdk_52_method_2_code (1 : Nat) (Option.some (Jvm.ClassFile.FieldType.array Jvm.ClassFile.FieldType.byte))).before args0 about1 = true := code_word (m := ⟨9, 1⟩) (meth := k9m1) (c := k9c1) (by decide +kernel) rfl rfl rfl (by decide +kernel)
set_option maxRecDepth 65536 in
theorem w_c21 : (Jvm.Cond.code ({ cls := "java/lang/StringUTF16", name := "newBytesLength", desc := "(I)I" } : Jvm.MethodName) jdk_52_method_3_code (1 : Nat) (Option.some Jvm.ClassFile.FieldType.int)).before args0 about1 = true := code_word (m := ⟨9, 2⟩) (meth := k9m2) (c := k9c2) (by decide +kernel) rfl rfl rfl (by decide +kernel)
set_option maxRecDepth 65536 in
theorem w_c22 : (Jvm.Cond.code ({ cls := "java/lang/StringUTF16", name := "putChar", desc := "([BII)V" } : Jvm.MethodName) jdk_52_method_4_code (3 : Nat) (Option.none : Option Jvm.ClassFile.FieldType)).before args0 about1 = true := code_word (m := ⟨9, 3⟩) (meth := k9m3) (c := k9c3) (by decide +kernel) rfl rfl rfl (by decide +kernel)
set_option maxRecDepth 65536 in
theorem w_c23 : (Jvm.Cond.code ({ cls := "java/lang/StringUTF16", name := "getChar", desc := "([BI)C" } : Jvm.MethodName) jdk_52_method_5_code (2 : Nat) (Option.some Jvm.ClassFile.FieldType.char)).before args0 about1 = true := code_word (m := ⟨9, 4⟩) (meth := k9m4) (c := k9c4) (by decide +kernel) rfl rfl rfl (by decide +kernel)
set_option maxRecDepth 65536 in
theorem w_c24 : (Jvm.Cond.code ({ cls := "java/lang/StringUTF16", name := "charAt", desc := "([BI)C" } : Jvm.MethodName) jdk_52_method_83_code (2 : Nat) (Option.some Jvm.ClassFile.FieldType.char)).before args0 about1 = true := code_word (m := ⟨9, 10⟩) (meth := k9m10) (c := k9c10) (by decide +kernel) rfl rfl rfl (by decide +kernel)
set_option maxRecDepth 65536 in
theorem w_c25 : (Jvm.Cond.code ({ cls := "java/lang/StringUTF16", name := "checkIndex", desc := "(I[B)V" } : Jvm.MethodName) jdk_52_method_91_code (2 : Nat) (Option.none : Option Jvm.ClassFile.FieldType)).before args0 about1 = true := code_word (m := ⟨9, 11⟩) (meth := k9m11) (c := k9c11) (by decide +kernel) rfl rfl rfl (by decide +kernel)
set_option maxRecDepth 65536 in
theorem w_c26 : (Jvm.Cond.code ({ cls := "java/lang/StringUTF16", name := "length", desc := "([B)I" } : Jvm.MethodName) jdk_52_method_6_code (1 : Nat) (Option.some Jvm.ClassFile.FieldType.int)).before args0 about1 = true := code_word (m := ⟨9, 5⟩) (meth := k9m5) (c := k9c5) (by decide +kernel) rfl rfl rfl (by decide +kernel)
def codes1 : List Jvm.Cond := [Jvm.Cond.code x code maxLocals ret, Jvm.Cond.code ({ cls := "com/example/yuletally/yuletally/ScreenLinesHoldsControlPinLaw", name := "draw", desc := "(I)C" } : Jvm.MethodName) method_3_code (1 : Nat) (Option.some Jvm.ClassFile.FieldType.char), Jvm.Cond.code ({ cls := "java/lang/String", name := "<init>", desc := "([C)V" } : Jvm.MethodName) jdk_42_method_3_code (2 : Nat) (Option.none : Option Jvm.ClassFile.FieldType), Jvm.Cond.code ({ cls := "java/lang/String", name := "<init>", desc := "([CIILjava/lang/Void;)V" } : Jvm.MethodName) jdk_42_method_149_code (6 : Nat) (Option.none : Option Jvm.ClassFile.FieldType), Jvm.Cond.code ({ cls := "java/lang/Object", name := "<init>", desc := "()V" } : Jvm.MethodName) object_method_1_code (1 : Nat) (Option.none : Option Jvm.ClassFile.FieldType), Jvm.Cond.code ({ cls := "com/example/yuletally/yuletally/ScreenLines", name := "holdsControl", desc := "(Ljava/lang/String;)Z" } : Jvm.MethodName) prog_11_method_8_code (2 : Nat) (Option.some Jvm.ClassFile.FieldType.boolean), Jvm.Cond.code ({ cls := "java/lang/String", name := "length", desc := "()I" } : Jvm.MethodName) jdk_42_method_54_code (1 : Nat) (Option.some Jvm.ClassFile.FieldType.int), Jvm.Cond.code ({ cls := "java/lang/String", name := "coder", desc := "()B" } : Jvm.MethodName) jdk_42_method_152_code (1 : Nat) (Option.some Jvm.ClassFile.FieldType.byte), Jvm.Cond.code ({ cls := "java/lang/StringUTF16", name := "compress", desc := "([CII)[B" } : Jvm.MethodName) jdk_52_method_16_code (6 : Nat) (Option.some (Jvm.ClassFile.FieldType.array Jvm.ClassFile.FieldType.byte)), Jvm.Cond.code ({ cls := "java/lang/StringUTF16", name := "compress", desc := "([CI[BII)I" } : Jvm.MethodName) jdk_52_method_21_code (7 : Nat) (Option.some Jvm.ClassFile.FieldType.int), Jvm.Cond.code ({ cls := "java/lang/StringUTF16", name := "coderFromArrayLen", desc := "([BI)B" } : Jvm.MethodName) jdk_52_method_15_code (2 : Nat) (Option.some Jvm.ClassFile.FieldType.byte), Jvm.Cond.code ({ cls := "com/example/yuletally/yuletally/ScreenLinesHoldsControlPinLaw", name := "ctl", desc := "(C)Z" } : Jvm.MethodName) method_2_code (1 : Nat) (Option.some Jvm.ClassFile.FieldType.boolean), Jvm.Cond.code ({ cls := "java/lang/String", name := "charAt", desc := "(I)C" } : Jvm.MethodName) jdk_42_method_56_code (2 : Nat) (Option.some Jvm.ClassFile.FieldType.char), Jvm.Cond.code ({ cls := "java/lang/String", name := "isLatin1", desc := "()Z" } : Jvm.MethodName) jdk_42_method_154_code (1 : Nat) (Option.some Jvm.ClassFile.FieldType.boolean), Jvm.Cond.code ({ cls := "java/lang/StringLatin1", name := "charAt", desc := "([BI)C" } : Jvm.MethodName) jdk_43_method_2_code (2 : Nat) (Option.some Jvm.ClassFile.FieldType.char), Jvm.Cond.code ({ cls := "java/lang/String", name := "checkIndex", desc := "(II)V" } : Jvm.MethodName) jdk_42_method_155_code (2 : Nat) (Option.none : Option Jvm.ClassFile.FieldType), Jvm.Cond.code ({ cls := "jdk/internal/util/Preconditions", name := "checkIndex", desc := "(IILjava/util/function/BiFunction;)I" } : Jvm.MethodName) jdk_41_method_11_code (3 : Nat) (Option.some Jvm.ClassFile.FieldType.int), Jvm.Cond.code ({ cls := "java/lang/Character", name := "isISOControl", desc := "(C)Z" } : Jvm.MethodName) jdk_89_method_88_code (1 : Nat) (Option.some Jvm.ClassFile.FieldType.boolean), Jvm.Cond.code ({ cls := "java/lang/Character", name := "isISOControl", desc := "(I)Z" } : Jvm.MethodName) jdk_89_method_89_code (1 : Nat) (Option.some Jvm.ClassFile.FieldType.boolean), Jvm.Cond.code ({ cls := "java/lang/StringUTF16", name := "toBytes", desc := "([CII)[B" } : Jvm.MethodName) jdk_52_method_14_code (5 : Nat) (Option.some (Jvm.ClassFile.FieldType.array Jvm.ClassFile.FieldType.byte)), Jvm.Cond.code ({ cls := "java/lang/StringUTF16", name := "newBytesFor", desc := "(I)[B" } : Jvm.MethodName) jdk_52_method_2_code (1 : Nat) (Option.some (Jvm.ClassFile.FieldType.array Jvm.ClassFile.FieldType.byte)), Jvm.Cond.code ({ cls := "java/lang/StringUTF16", name := "newBytesLength", desc := "(I)I" } : Jvm.MethodName) jdk_52_method_3_code (1 : Nat) (Option.some Jvm.ClassFile.FieldType.int), Jvm.Cond.code ({ cls := "java/lang/StringUTF16", name := "putChar", desc := "([BII)V" } : Jvm.MethodName) jdk_52_method_4_code (3 : Nat) (Option.none : Option Jvm.ClassFile.FieldType), Jvm.Cond.code ({ cls := "java/lang/StringUTF16", name := "getChar", desc := "([BI)C" } : Jvm.MethodName) jdk_52_method_5_code (2 : Nat) (Option.some Jvm.ClassFile.FieldType.char), Jvm.Cond.code ({ cls := "java/lang/StringUTF16", name := "charAt", desc := "([BI)C" } : Jvm.MethodName) jdk_52_method_83_code (2 : Nat) (Option.some Jvm.ClassFile.FieldType.char), Jvm.Cond.code ({ cls := "java/lang/StringUTF16", name := "checkIndex", desc := "(I[B)V" } : Jvm.MethodName) jdk_52_method_91_code (2 : Nat) (Option.none : Option Jvm.ClassFile.FieldType), Jvm.Cond.code ({ cls := "java/lang/StringUTF16", name := "length", desc := "([B)I" } : Jvm.MethodName) jdk_52_method_6_code (1 : Nat) (Option.some Jvm.ClassFile.FieldType.int)]
set_option maxRecDepth 65536 in
theorem codes_eq : words1.filter isCode = codes1 := rfl
theorem w_codes : ∀ c ∈ words1.filter isCode, c.before args0 about1 = true := by
  rw [codes_eq]
  intro c hc
  simp only [codes1, List.mem_cons, List.not_mem_nil, or_false] at hc
  rcases hc with rfl | rfl | rfl | rfl | rfl | rfl | rfl | rfl | rfl | rfl | rfl | rfl | rfl | rfl | rfl | rfl | rfl | rfl | rfl | rfl | rfl | rfl | rfl | rfl | rfl | rfl | rfl
  · exact w_c0
  · exact w_c1
  · exact w_c2
  · exact w_c3
  · exact w_c4
  · exact w_c5
  · exact w_c6
  · exact w_c7
  · exact w_c8
  · exact w_c9
  · exact w_c10
  · exact w_c11
  · exact w_c12
  · exact w_c13
  · exact w_c14
  · exact w_c15
  · exact w_c16
  · exact w_c17
  · exact w_c18
  · exact w_c19
  · exact w_c20
  · exact w_c21
  · exact w_c22
  · exact w_c23
  · exact w_c24
  · exact w_c25
  · exact w_c26
set_option maxRecDepth 65536 in
theorem w_t1 : (words1.take 24).all (fun c => isCode c || c.before args0 about1) = true := by decide +kernel
set_option maxRecDepth 65536 in
theorem w_t2 : ((words1.drop 24).take 24).all (fun c => isCode c || c.before args0 about1) = true := by decide +kernel
set_option maxRecDepth 65536 in
theorem w_t3 : (((words1.drop 24).drop 24).take 24).all (fun c => isCode c || c.before args0 about1) = true := by decide +kernel
set_option maxRecDepth 65536 in
theorem w_t4 : ((((words1.drop 24).drop 24).drop 24).take 24).all (fun c => isCode c || c.before args0 about1) = true := by decide +kernel
set_option maxRecDepth 65536 in
theorem w_t5 : ((((words1.drop 24).drop 24).drop 24).drop 24).all (fun c => isCode c || c.before args0 about1) = true := by decide +kernel
theorem w_tables : (allAtoms (Jvm.Cond.code x code maxLocals ret :: tables_1)).before args0 about1 = true := by
  rw [allAtoms_all]
  show words1.all (fun c => c.before args0 about1) = true
  refine all_split ?_ w_codes
  rw [← List.take_append_drop 24 words1, List.all_append, w_t1, ← List.take_append_drop 24 (words1.drop 24), List.all_append, w_t2, ← List.take_append_drop 24 ((words1.drop 24).drop 24), List.all_append, w_t3, ← List.take_append_drop 24 (((words1.drop 24).drop 24).drop 24), List.all_append, w_t4, w_t5]
  rfl
set_option maxRecDepth 65536 in
theorem w_rest : rest_1_c.before args0 about1 = true := by decide +kernel
set_option maxRecDepth 65536 in
theorem w_case : (Jvm.Cond.and given_1 narrow_1).before args0 about1 = true := by decide +kernel
set_option maxRecDepth 65536 in
theorem w_consts : constsHeld consts_1 about1 := Jvm.Lit.constsHeldB_iff.mp (by decide +kernel)
theorem w_applies : (headSpec (Jvm.Cond.code x code maxLocals ret :: tables_1) room_1).applies x e0.platform about1 = true :=
  (Spec.applies_iff w_frames).mpr ⟨w_running, w_runnable, w_alone, w_named, w_hears, w_ripe, w_room, w_tables⟩
theorem atStart : AtStart classFile x code maxLocals ret World_1 tables_1 room_1 Calls_1 rest_1 Pre_1 launch0 p0 e0 about1 theMethod args0 below0 :=
  ⟨lists_1, trivial, launch0.admits_env _ _ _, launch0.least_env, fairChoices_fair.cas, fairChoices_fair.clock, w_frames, w_args, w_heap, w_applies, ⟨w_consts, trivial⟩, w_rest, w_case⟩
end start1
theorem witness_1 : WitnessClaimed_1 := ⟨start1.p0, start1.e0, start1.about1, start1.theMethod, start1.args0, start1.below0, start1.atStart⟩
end Jvm.Pilot.@@N@@
