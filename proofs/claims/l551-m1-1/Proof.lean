import JvmDerived
import JvmDerived.Pilot.@@N@@Statement
import JvmDerived.Pilot.@@N@@Code
set_option linter.unusedVariables false
set_option linter.unusedSimpArgs false
namespace Jvm.Pilot.@@N@@
open Jvm Jvm.ClassFile Sem Op Lib Jvm.Free Jvm.Stand Jvm.LawKit Jvm.RoadKit Bundle Jvm.Pilot.@@N@@.Jvm.D
section OwnKit
variable {p : Program} {l : Launch} {e : Env} {R : Room} {s : State} {m : MethodId} {args : Array Value} {below : List Frame} {meth : Method} {c : Code} {T : State} {locs : List Loc} {cells slots : Nat} {Z : State} {a0 : Array Value} {h : Heap}
/-- from S the body comes to its end, and P holds of it -/
def Gd (tb : Tables) (e : Env) (below : List Frame) (P : Outcome → State → Prop) (S : State) : Prop := ∃ s₂ o, Steps tb e below S s₂ ∧ s₂.status = .running ∧ Ended s₂ below o ∧ P o s₂
theorem Gd.go {tb : Tables} {e : Env} {below : List Frame} {P : Outcome → State → Prop} {S S' : State} (h : ∀ t, Steps tb e below S' t → Steps tb e below S t) (k : Gd tb e below P S') : Gd tb e below P S := by
  obtain ⟨s₂, o, h1, h2⟩ := k
  exact ⟨s₂, o, h _ h1, h2⟩
theorem Gd.via {tb : Tables} {e : Env} {below : List Frame} {P : Outcome → State → Prop} {S S' : State} (h : Gd tb e below P S' → Gd tb e below P S) (k : Gd tb e below P S') : Gd tb e below P S := h k
theorem Gd.viaA {α : Type} {A : α → Prop} {tb : Tables} {e : Env} {below : List Frame} {P : Outcome → State → Prop} {S : State} {S' : α → State} (h : (∀ z, A z → Gd tb e below P (S' z)) → Gd tb e below P S) (k : ∀ z, A z → Gd tb e below P (S' z)) : Gd tb e below P S := h k
/-- a body's contract: called with these arguments over this heap it returns, Q holds, and so many cells and slots at most are new -/
def Con (l : Launch) (Z : State) (y : MethodName) (bytes : ByteArray) (maxL : Nat) (ret : Option FieldType) (ws : List Jvm.Cond) (rm : Room) (kc ks : Nat) (as' : Array Value) (h : Heap) (Q : Option Value → Heap → List Loc → Prop) : Prop :=
  MetFree l y (head1 (Jvm.Cond.code y bytes maxL ret :: ws) rm) (fun a U => a = as' ∧ Z.Warmed39 U.vm ∧ U.heap = h) (fun _ _ _ _ _ => True) (fun _ U o U' => ∃ v L, o = .returned v ∧ Q v U'.heap L ∧ FrameEnd U o U' L kc ks)
/-- what a body's walk owes -/
abbrev Owes (s : State) (kc ks : Nat) (Q : Option Value → Heap → List Loc → Prop) : Outcome → State → Prop := fun o U' => ∃ v L, o = .returned v ∧ Q v U'.heap L ∧ FrameEnd s o U' L kc ks
theorem Con.of {y : MethodName} {bytes : ByteArray} {maxL : Nat} {ret : Option FieldType} {ws : List Jvm.Cond} {rm : Room} {kc ks : Nat} {as' : Array Value} {Q : Option Value → Heap → List Loc → Prop} (hpn : plainFor y = true)
    (body : ∀ (p : Program) (e : Env) (s : State) (m : MethodId) (below : List Frame) (meth : Method) (c : Code) (s₁ : State), p.tables.exec = Jvm.exec → c.code = bytes → c.maxLocals = maxL → s.vm.findClass y.cls = some m.cls → meth.name = y.name → meth.sig.returnType = ret → meth.locks = false → Z.Warmed39 s.vm →
      Stand p l e rm s m as' below meth c s₁ [] 0 0 → s₁.heap = h → Gd p.tables e below (Owes s kc ks Q) (s₁.setTop (entryFrame m as' maxL))) : Con l Z y bytes maxL ret ws rm kc ks as' h Q := by
  refine MetFree.of_bodySF hpn hisR ?_
  intro p e s m args below meth c s₁ Bd hml0 hP hK
  obtain ⟨rfl, hZ, hh⟩ := hP
  exact body p e s m below meth c s₁ Bd.exec Bd.bytes hml0 (findClass_of_methodNamed Bd.named) (name_of_methodNamed Bd.named Bd.method).1 Bd.returns Bd.notSynchronized hZ (Stand.of_body Bd) (by rw [← hh, Bd.state]; rfl)
theorem Con.weak {y : MethodName} {bytes : ByteArray} {maxL : Nat} {ret : Option FieldType} {ws : List Jvm.Cond} {rm : Room} {kc ks : Nat} {as' : Array Value} {Q Q' : Option Value → Heap → List Loc → Prop} (H : Con l Z y bytes maxL ret ws rm kc ks as' h Q) (q : ∀ v h L, Q v h L → Q' v h L) : Con l Z y bytes maxL ret ws rm kc ks as' h Q' := by
  intro p e ha hc hk s m args below hf happ hP hK
  obtain ⟨n, o, h1, h2, h3, v, L, e1, e2, e3⟩ := H p e ha hc hk s m args below hf happ hP hK
  exact ⟨n, o, h1, h2, h3, v, L, e1, q _ _ _ e2, e3⟩
theorem own_retI (X : Stand p l e R s m args below meth c T locs cells slots) (hx : p.tables.exec = Jvm.exec) {pc : Nat} {Ls : Array Slot} {z : Int32} {rest : List Value} (hret : meth.sig.returnType = some .int) (hlk : meth.locks = false) (hd : decode c.code pc = .ok (.ireturn, 1)) {Q : Option Value → Heap → List Loc → Prop} {kc ks : Nat} (hq : Q (some (.int z)) T.heap locs) (hc : cells ≤ kc) (hs : slots ≤ ks) :
    Gd p.tables e below (Owes s kc ks Q) (T.setTop (mkF m pc Ls (.int z :: rest))) := by
  obtain ⟨fs, hr, hrun, hended, hW, hsame⟩ := X.leave (v := some (.int z)) (fun h => by rw [hret] at h; cases h) hlk
  have hm' : T.vm.method? m = some meth := X.method'
  have hn : narrow .int (.int z) = .int z := rfl
  refine ⟨_, _, ?_, hrun, hended, _, _, rfl, hq, ⟨_, rfl⟩, hW, hsame.mono hc hs⟩
  show Steps p.tables e below (T.setTop { method := m, pc := pc, locals := Ls, stack := _ :: rest, locked := none }) _
  jvm_step X.here [X.here.top, hx, hd, hm', hret, hn]
  first | (intro acts; rw [hr _ acts rfl rfl rfl]) | rw [hr _ _ rfl rfl rfl]
  exact Steps.refl _
theorem own_retN (X : Stand p l e R s m args below meth c T locs cells slots) (hx : p.tables.exec = Jvm.exec) {pc : Nat} {Ls : Array Slot} {z : Int32} {rest : List Value} {t : FieldType} (hret : meth.sig.returnType = some t) (hlk : meth.locks = false) (ht : t = .boolean ∨ t = .byte ∨ t = .char ∨ t = .short) (hd : decode c.code pc = .ok (.ireturn, 1)) {Q : Option Value → Heap → List Loc → Prop} {kc ks : Nat} (hq : Q (some (.int (nar t z))) T.heap locs) (hc : cells ≤ kc) (hs : slots ≤ ks) :
    Gd p.tables e below (Owes s kc ks Q) (T.setTop (mkF m pc Ls (.int z :: rest))) := by
  obtain ⟨fs, hr, hrun, hended, hW, hsame⟩ := X.leave (v := some (.int (nar t z))) (fun h => by rw [hret] at h; cases h) hlk
  exact ⟨_, _, retN X hx hret ht hd hr, hrun, hended, _, _, rfl, hq, ⟨_, rfl⟩, hW, hsame.mono hc hs⟩
theorem own_retV (X : Stand p l e R s m args below meth c T locs cells slots) (hx : p.tables.exec = Jvm.exec) {pc : Nat} {Ls : Array Slot} (hret : meth.sig.returnType = none) (hlk : meth.locks = false) (hd : decode c.code pc = .ok (.return_, 1)) {Q : Option Value → Heap → List Loc → Prop} {kc ks : Nat} (hq : Q none T.heap locs) (hc : cells ≤ kc) (hs : slots ≤ ks) :
    Gd p.tables e below (Owes s kc ks Q) (T.setTop (mkF m pc Ls [])) := by
  obtain ⟨fs, hr, hrun, hended, hW, hsame⟩ := X.leave (v := none) (fun _ => rfl) hlk
  exact ⟨_, _, X.returnOut hx hret hd hr, hrun, hended, _, _, rfl, hq, ⟨_, rfl⟩, hW, hsame.mono hc hs⟩
theorem own_retL (X : Stand p l e R s m args below meth c T locs cells slots) (hx : p.tables.exec = Jvm.exec) {pc : Nat} {Ls : Array Slot} {z : Int64} {rest : List Value} (hret : meth.sig.returnType = some .long) (hlk : meth.locks = false) (hd : decode c.code pc = .ok (.lreturn, 1)) {Q : Option Value → Heap → List Loc → Prop} {kc ks : Nat} (hq : Q (some (.long z)) T.heap locs) (hc : cells ≤ kc) (hs : slots ≤ ks) :
    Gd p.tables e below (Owes s kc ks Q) (T.setTop (mkF m pc Ls (.long z :: rest))) := by
  obtain ⟨fs, hr, hrun, hended, hW, hsame⟩ := X.leave (v := some (.long z)) (fun h => by rw [hret] at h; cases h) hlk
  have hm' : T.vm.method? m = some meth := X.method'
  refine ⟨_, _, ?_, hrun, hended, _, _, rfl, hq, ⟨_, rfl⟩, hW, hsame.mono hc hs⟩
  show Steps p.tables e below (T.setTop { method := m, pc := pc, locals := Ls, stack := _ :: rest, locked := none }) _
  jvm_step X.here [X.here.top, hx, hd, hm', hret, narrow]
  first | (intro acts; rw [hr _ acts rfl rfl rfl]) | rw [hr _ _ rfl rfl rfl]
  exact Steps.refl _
theorem own_retA (X : Stand p l e R s m args below meth c T locs cells slots) (hx : p.tables.exec = Jvm.exec) {pc : Nat} {Ls : Array Slot} {a : Addr} {rest : List Value} {t : FieldType} (hret : meth.sig.returnType = some t) (hlk : meth.locks = false) (ht : t.isReference = true) (hd : decode c.code pc = .ok (.areturn, 1)) {Q : Option Value → Heap → List Loc → Prop} {kc ks : Nat} (hq : Q (some (.ref a)) T.heap locs) (hc : cells ≤ kc) (hs : slots ≤ ks) :
    Gd p.tables e below (Owes s kc ks Q) (T.setTop (mkF m pc Ls (.ref a :: rest))) := by
  obtain ⟨fs, hr, hrun, hended, hW, hsame⟩ := X.leave (v := some (.ref a)) (fun h => by rw [hret] at h; cases h) hlk
  have hm' : T.vm.method? m = some meth := X.method'
  refine ⟨_, _, ?_, hrun, hended, _, _, rfl, hq, ⟨_, rfl⟩, hW, hsame.mono hc hs⟩
  show Steps p.tables e below (T.setTop { method := m, pc := pc, locals := Ls, stack := _ :: rest, locked := none }) _
  jvm_step X.here [X.here.top, hx, hd, hm', hret, ht, Value.isRef]
  first | (intro acts; rw [hr _ acts rfl rfl rfl]) | rw [hr _ _ rfl rfl rfl]
  exact Steps.refl _
/-- a static call by its contract -/
theorem own_callS (X : Stand p l e R s m args below meth c T locs cells slots) (hx : p.tables.exec = Jvm.exec) (hZ : Z.Warmed39 s.vm) {own : String} {index : Nat} {y : MethodName} {bytes : ByteArray} {maxL : Nat} {ret : Option FieldType} (hown : s.vm.findClass own = some m.cls)
    (w1 : (Jvm.Cond.methodLink own index y).before a0 Z = true) (w2 : (Jvm.Cond.static y).before a0 Z = true) (w3 : (Jvm.Cond.initialized y.cls).before a0 Z = true) (w4 : (Jvm.Cond.code y bytes maxL ret).before a0 Z = true) (hy : y.cls ≠ "java/lang/invoke/MethodHandle" ∧ y.cls ≠ "java/lang/invoke/VarHandle")
    {rm : Room} {as' : Array Value} {Q : Option Value → Heap → List Loc → Prop} {W kc ks : Nat} (hM : Con l Z y bytes maxL ret [] rm kc ks as' h Q) (hkc : rm.cells = kc) (hks : rm.slots = ks) (eT : T.heap = h) (hf : rm.frames + 1 ≤ R.frames) (hl : W + (maxL + 11) + rm.locals ≤ R.locals)
    {g : JFrame} (hg : g.method = m) (hsize : g.locals.size = c.maxLocals) {argsL rest : List Value} (hlen : ∀ sig, parseMethodDescriptor y.desc = some sig → argsL.length = sig.parameters.length) (hstack : g.stack = argsL.reverse ++ rest) (hW : 2 * g.monitorRoom + (rest.map fun v => v.category).sum ≤ W)
    (hdg : decode c.code g.pc = .ok (.invokestatic index, 3)) (has : argsL.toArray = as') (hc : cells + kc ≤ R.cells) (hs : slots + ks ≤ R.slots) :
    ∃ v T' L, Stand p l e R s m args below meth c T' (locs ++ L) (cells + kc) (slots + ks) ∧ Q v T'.heap L ∧ ∀ target, Steps p.tables e below (T'.setTop { g with pc := g.pc + 3, stack := v.toList ++ rest }) target → Steps p.tables e below (T.setTop g) target := by
  subst hkc hks
  obtain ⟨v, vm₁, ⟨T', L', c', s'⟩, -, X', ⟨L, hq, l1, l2, l3⟩, st⟩ := Jvm.LawKit.callS X hx (y := y) hown (mvT hZ w1) (mvT hZ w2) (mvT hZ w3) (mvT hZ w4) hy (backOf (W := W) hM hZ w4 w3 hf hl) hg hsize (argsL := argsL) (rest := rest) hlen hstack hW hdg (fun _ _ => ⟨has, eT, hc, hs⟩)
  dsimp only [Pt.U, Pt.locs, Pt.cells, Pt.slots] at X' l1 l2 l3 st hq
  subst l1 l2 l3
  exact ⟨v, T', L, X', hq, st⟩
/-- a static call that writes and makes nothing -/
theorem own_callSP (X : Stand p l e R s m args below meth c T locs cells slots) (hx : p.tables.exec = Jvm.exec) (hZ : Z.Warmed39 s.vm) {own : String} {index : Nat} {y : MethodName} {bytes : ByteArray} {maxL : Nat} {ret : Option FieldType} (hown : s.vm.findClass own = some m.cls)
    (w1 : (Jvm.Cond.methodLink own index y).before a0 Z = true) (w2 : (Jvm.Cond.static y).before a0 Z = true) (w3 : (Jvm.Cond.initialized y.cls).before a0 Z = true) (w4 : (Jvm.Cond.code y bytes maxL ret).before a0 Z = true) (hy : y.cls ≠ "java/lang/invoke/MethodHandle" ∧ y.cls ≠ "java/lang/invoke/VarHandle")
    {rm : Room} {as' : Array Value} {v : Option Value} {W : Nat} (hM : Con l Z y bytes maxL ret [] rm 0 0 as' h (fun v' h' L => v' = v ∧ h' = h ∧ L = [])) (hkc : rm.cells = 0) (hks : rm.slots = 0) (eT : T.heap = h) (hf : rm.frames + 1 ≤ R.frames) (hl : W + (maxL + 11) + rm.locals ≤ R.locals)
    {g : JFrame} (hg : g.method = m) (hsize : g.locals.size = c.maxLocals) {argsL rest : List Value} (hlen : ∀ sig, parseMethodDescriptor y.desc = some sig → argsL.length = sig.parameters.length) (hstack : g.stack = argsL.reverse ++ rest) (hW : 2 * g.monitorRoom + (rest.map fun v => v.category).sum ≤ W)
    (hdg : decode c.code g.pc = .ok (.invokestatic index, 3)) (has : argsL.toArray = as') (hc : cells ≤ R.cells := by decide) (hs : slots ≤ R.slots := by decide) :
    ∃ T', Stand p l e R s m args below meth c T' locs cells slots ∧ T'.heap = h ∧ ∀ target, Steps p.tables e below (T'.setTop { g with pc := g.pc + 3, stack := v.toList ++ rest }) target → Steps p.tables e below (T.setTop g) target := by
  obtain ⟨v', T', L, X', ⟨e1, e2, e3⟩, st⟩ := own_callS X hx hZ hown w1 w2 w3 w4 hy hM hkc hks eT hf hl hg hsize hlen hstack hW hdg has hc hs
  subst e1 e3
  rw [List.append_nil] at X'
  exact ⟨T', X', e2, st⟩
/-- an instance method by its contract, chosen by the receiver's class -/
theorem own_callV (X : Stand p l e R s m args below meth c T locs cells slots) (hx : p.tables.exec = Jvm.exec) (hZ : Z.Warmed39 s.vm) {own C : String} {index : Nat} {y : MethodName} {bytes : ByteArray} {maxL : Nat} {ret : Option FieldType} (hown : s.vm.findClass own = some m.cls)
    (w1 : (Jvm.Cond.methodLink own index y).before a0 Z = true) (w2 : (Jvm.Cond.declares y).before a0 Z = true) (w3 : (Jvm.Cond.selects C y y).before a0 Z = true) (w4 : (Jvm.Cond.instanceMethod y).before a0 Z = true) (w5 : (Jvm.Cond.initialized y.cls).before a0 Z = true) (w6 : (Jvm.Cond.code y bytes maxL ret).before a0 Z = true) (hy : y.cls ≠ "java/lang/invoke/MethodHandle" ∧ y.cls ≠ "java/lang/invoke/VarHandle")
    {b : Addr} (E : Exa Z h b C) {rm : Room} {as' : Array Value} {Q : Option Value → Heap → List Loc → Prop} {W kc ks : Nat} (hM : Con l Z y bytes maxL ret [] rm kc ks as' h Q) (hkc : rm.cells = kc) (hks : rm.slots = ks) (eT : T.heap = h) (hf : rm.frames + 1 ≤ R.frames) (hl : W + (maxL + 11) + rm.locals ≤ R.locals)
    {g : JFrame} (hg : g.method = m) (hsize : g.locals.size = c.maxLocals) {argsL rest : List Value} (hlen : ∀ sig, parseMethodDescriptor y.desc = some sig → argsL.length = sig.parameters.length) (hstack : g.stack = argsL.reverse ++ .ref b :: rest) (hW : 2 * g.monitorRoom + (rest.map fun v => v.category).sum ≤ W)
    (hdg : decode c.code g.pc = .ok (.invokevirtual index, 3)) (has : (.ref b :: argsL).toArray = as') (hc : cells + kc ≤ R.cells) (hs : slots + ks ≤ R.slots) :
    ∃ v T' L, Stand p l e R s m args below meth c T' (locs ++ L) (cells + kc) (slots + ks) ∧ Q v T'.heap L ∧ ∀ target, Steps p.tables e below (T'.setTop { g with pc := g.pc + 3, stack := v.toList ++ rest }) target → Steps p.tables e below (T.setTop g) target := by
  subst hkc hks
  obtain ⟨cq, kq, qa, qb, qc⟩ := isOf hZ eT E
  obtain ⟨v, vm₁, ⟨T', L', c', s'⟩, -, X', ⟨L, hq, l1, l2, l3⟩, st⟩ := X.virtualBack hx (y := y) (z := y) hown (mvT hZ w1) (mvT hZ w2) (notFace_of_selects (args := #[]) (mvT hZ w3)) (mvT hZ w3) (mvT hZ w4) hy (backOf (W := W) hM hZ w6 w5 hf hl) qa qc hg hsize (Steps.refl _) (argsL := argsL) (rest := rest) hlen hstack hW hdg (fun _ _ => ⟨has, eT, hc, hs⟩)
  dsimp only [Pt.U, Pt.locs, Pt.cells, Pt.slots] at X' l1 l2 l3 st hq
  subst l1 l2 l3
  exact ⟨v, T', L, X', hq, fun _ k => st.trans k⟩
/-- an instance method that writes and makes nothing -/
theorem own_callVP (X : Stand p l e R s m args below meth c T locs cells slots) (hx : p.tables.exec = Jvm.exec) (hZ : Z.Warmed39 s.vm) {own C : String} {index : Nat} {y : MethodName} {bytes : ByteArray} {maxL : Nat} {ret : Option FieldType} (hown : s.vm.findClass own = some m.cls)
    (w1 : (Jvm.Cond.methodLink own index y).before a0 Z = true) (w2 : (Jvm.Cond.declares y).before a0 Z = true) (w3 : (Jvm.Cond.selects C y y).before a0 Z = true) (w4 : (Jvm.Cond.instanceMethod y).before a0 Z = true) (w5 : (Jvm.Cond.initialized y.cls).before a0 Z = true) (w6 : (Jvm.Cond.code y bytes maxL ret).before a0 Z = true) (hy : y.cls ≠ "java/lang/invoke/MethodHandle" ∧ y.cls ≠ "java/lang/invoke/VarHandle")
    {b : Addr} (E : Exa Z h b C) {rm : Room} {as' : Array Value} {v : Option Value} {W : Nat} (hM : Con l Z y bytes maxL ret [] rm 0 0 as' h (fun v' h' L => v' = v ∧ h' = h ∧ L = [])) (hkc : rm.cells = 0) (hks : rm.slots = 0) (eT : T.heap = h) (hf : rm.frames + 1 ≤ R.frames) (hl : W + (maxL + 11) + rm.locals ≤ R.locals)
    {g : JFrame} (hg : g.method = m) (hsize : g.locals.size = c.maxLocals) {argsL rest : List Value} (hlen : ∀ sig, parseMethodDescriptor y.desc = some sig → argsL.length = sig.parameters.length) (hstack : g.stack = argsL.reverse ++ .ref b :: rest) (hW : 2 * g.monitorRoom + (rest.map fun v => v.category).sum ≤ W)
    (hdg : decode c.code g.pc = .ok (.invokevirtual index, 3)) (has : (.ref b :: argsL).toArray = as') (hc : cells ≤ R.cells := by decide) (hs : slots ≤ R.slots := by decide) :
    ∃ T', Stand p l e R s m args below meth c T' locs cells slots ∧ T'.heap = h ∧ ∀ target, Steps p.tables e below (T'.setTop { g with pc := g.pc + 3, stack := v.toList ++ rest }) target → Steps p.tables e below (T.setTop g) target := by
  obtain ⟨v', T', L, X', ⟨e1, e2, e3⟩, st⟩ := own_callV X hx hZ hown w1 w2 w3 w4 w5 w6 hy E hM hkc hks eT hf hl hg hsize hlen hstack hW hdg has hc hs
  subst e1 e3
  rw [List.append_nil] at X'
  exact ⟨T', X', e2, st⟩
/-- a constructor by its contract -/
theorem own_callI (X : Stand p l e R s m args below meth c T locs cells slots) (hx : p.tables.exec = Jvm.exec) (hZ : Z.Warmed39 s.vm) {own : String} {index : Nat} {y : MethodName} {bytes : ByteArray} {maxL : Nat} (hy1 : y.name = "<init>") (hown : s.vm.findClass own = some m.cls)
    (w1 : (Jvm.Cond.methodLink own index y).before a0 Z = true) (w4 : (Jvm.Cond.instanceMethod y).before a0 Z = true) (w5 : (Jvm.Cond.initialized y.cls).before a0 Z = true) (w6 : (Jvm.Cond.code y bytes maxL none).before a0 Z = true) (hy : y.cls ≠ "java/lang/invoke/MethodHandle" ∧ y.cls ≠ "java/lang/invoke/VarHandle")
    {b : Addr} {rm : Room} {as' : Array Value} {Q : Option Value → Heap → List Loc → Prop} {W kc ks : Nat} (hM : Con l Z y bytes maxL none [] rm kc ks as' h Q) (hkc : rm.cells = kc) (hks : rm.slots = ks) (eT : T.heap = h) (hf : rm.frames + 1 ≤ R.frames) (hl : W + (maxL + 11) + rm.locals ≤ R.locals)
    {g : JFrame} (hg : g.method = m) (hsize : g.locals.size = c.maxLocals) {argsL rest : List Value} (hlen : ∀ sig, parseMethodDescriptor y.desc = some sig → argsL.length = sig.parameters.length) (hstack : g.stack = argsL.reverse ++ .ref b :: rest) (hW : 2 * g.monitorRoom + (rest.map fun v => v.category).sum ≤ W)
    (hdg : decode c.code g.pc = .ok (.invokespecial index, 3)) (has : (.ref b :: argsL).toArray = as') (hc : cells + kc ≤ R.cells) (hs : slots + ks ≤ R.slots) :
    ∃ v T' L, Stand p l e R s m args below meth c T' (locs ++ L) (cells + kc) (slots + ks) ∧ Q v T'.heap L ∧ ∀ target, Steps p.tables e below (T'.setTop { g with pc := g.pc + 3, stack := v.toList ++ rest }) target → Steps p.tables e below (T.setTop g) target := by
  subst hkc hks
  obtain ⟨v, vm₁, ⟨T', L', c', s'⟩, -, X', ⟨L, hq, l1, l2, l3⟩, st⟩ := X.specialBack hx (y := y) hy1 hown (mvT hZ w1) (mvT hZ w4) (mvT hZ w6) hy (backOf (W := W) hM hZ w6 w5 hf hl) hg hsize (Steps.refl _) (a := b) (argsL := argsL) (rest := rest) hlen hstack hW hdg (fun _ _ => ⟨has, eT, hc, hs⟩)
  dsimp only [Pt.U, Pt.locs, Pt.cells, Pt.slots] at X' l1 l2 l3 st hq
  subst l1 l2 l3
  exact ⟨v, T', L, X', hq, fun _ k => st.trans k⟩
/-- an array as a function of its places -/
def ArF (Z : State) (h : Heap) (a : Addr) (ty : FieldType) (n : Nat) (f : Nat → Value) : Prop := ∃ c : Cell, Arr Z h a c ty ∧ c.slots.size = n ∧ n < 2 ^ 31 ∧ ∀ i, i < n → c.slots[i]? = some (f i)
def upd (f : Nat → Value) (j : Nat) (v : Value) : Nat → Value := fun i => if i = j then v else f i
theorem upd_at (f : Nat → Value) (j : Nat) (v : Value) : upd f j v j = v := if_pos rfl
theorem upd_ne (f : Nat → Value) {i j : Nat} (v : Value) (q : ¬ i = j) : upd f j v i = f i := if_neg q
theorem ArF.lt {h : Heap} {a : Addr} {ty : FieldType} {n : Nat} {f : Nat → Value} (F : ArF Z h a ty n f) : a < h.size := by obtain ⟨c, A, -⟩ := F; exact A.lt
theorem ArF.ext {h h' : Heap} {a : Addr} {ty : FieldType} {n : Nat} {f : Nat → Value} (F : ArF Z h a ty n f) (E : Ext h h') : ArF Z h' a ty n f := by obtain ⟨c, A, r⟩ := F; exact ⟨c, A.ext E, r⟩
theorem ArF.other {h h' : Heap} {a b : Addr} {ty : FieldType} {n : Nat} {f : Nat → Value} {sl : Nat} {v : Value} (F : ArF Z h b ty n f) (W : Wr h h' a sl v) (q : b ≠ a) : ArF Z h' b ty n f := by obtain ⟨c, A, r⟩ := F; exact ⟨c, A.other W q, r⟩
theorem ArF.keep {h h' : Heap} {a : Addr} {ty : FieldType} {n : Nat} {f : Nat → Value} {ws : List Addr} (F : ArF Z h a ty n f) (K : Keep h h' ws) (q : a ∉ ws) : ArF Z h' a ty n f := by obtain ⟨c, A, r⟩ := F; exact ⟨c, ⟨K.2.1 a c A.1 q, A.2⟩, r⟩
theorem ArF.set {h h' : Heap} {a : Addr} {ty : FieldType} {n : Nat} {f : Nat → Value} {j : Nat} {v : Value} (F : ArF Z h a ty n f) (W : Wr h h' a j v) : ArF Z h' a ty n (upd f j v) := by
  obtain ⟨c, A, r1, r2, r3⟩ := F
  refine ⟨_, A.same W, by rw [sz_set]; exact r1, r2, fun i hi => ?_⟩
  show (c.slots.setIfInBounds j v)[i]? = _
  rw [Array.getElem?_setIfInBounds]
  by_cases q : j = i
  · subst q; rw [if_pos rfl, if_pos (by omega), upd_at]
  · rw [if_neg q, upd_ne _ _ (fun w => q w.symm)]; exact r3 i hi
theorem ArF.congr {h : Heap} {a : Addr} {ty : FieldType} {n : Nat} {f g : Nat → Value} (F : ArF Z h a ty n f) (q : ∀ i, i < n → f i = g i) : ArF Z h a ty n g := by
  obtain ⟨c, A, r1, r2, r3⟩ := F
  exact ⟨c, A, r1, r2, fun i hi => by rw [← q i hi]; exact r3 i hi⟩
theorem ArF.n31 {h : Heap} {a : Addr} {ty : FieldType} {n : Nat} {f : Nat → Value} (F : ArF Z h a ty n f) : n < 2 ^ 31 := by obtain ⟨c, A, r1, r2, r3⟩ := F; exact r2
theorem own_ofN {n : Nat} (h : n < 2 ^ 31) : (Int32.ofNat n).toInt = n := Int32.toInt_ofNat_small h
theorem own_ofC {n : Nat} (h : n < 2 ^ 31) : (Int32.ofNat n).toNatClampNeg = n := by show (Int32.ofNat n).toInt.toNat = n; rw [own_ofN h]; rfl
theorem own_ltN {i n : Nat} (h : i < n) (hn : n < 2 ^ 31) : Int32.ofNat i < Int32.ofNat n := by rw [Int32.lt_iff_toInt_lt, own_ofN (by omega), own_ofN hn]; omega
theorem own_geN {i n : Nat} (h : ¬ i < n) (hn : i < 2 ^ 31) : ¬ Int32.ofNat i < Int32.ofNat n := by rw [Int32.lt_iff_toInt_lt, own_ofN hn, own_ofN (by omega)]; omega
theorem own_incN (i : Nat) : Int32.ofNat i + (1 : Int32) = Int32.ofNat (i + 1) := (Int32.ofNat_add i 1).symm
theorem own_nat {j : Int32} (h : 0 ≤ j.toInt) : (j.toNatClampNeg : Int) = j.toInt := Int.toNat_of_nonneg h
theorem own_natInj {i j : Int32} (hi : 0 ≤ i.toInt) (hj : 0 ≤ j.toInt) : i.toNatClampNeg = j.toNatClampNeg ↔ i = j := by
  constructor
  · intro q; have a := own_nat hi; have b := own_nat hj; exact Int32.toInt_inj.mp (by omega)
  · rintro rfl; rfl
theorem own_in {c : Cell} {n : Nat} {j : Int32} (S : c.slots.size = n) (h1 : 0 ≤ j.toInt) (h2 : j.toInt < n) : ¬ (j < 0 ∨ c.slots.size ≤ j.toNatClampNeg) := by
  have e : (j.toNatClampNeg : Int) = j.toInt := Int.toNat_of_nonneg h1
  rw [Int32.lt_iff_toInt_lt]
  have : (0 : Int32).toInt = 0 := rfl
  omega
theorem own_new {h h' : Heap} {k : ClassId} {ty : FieldType} {z : Int32} {a : Addr} (A : Arr Z h' a (newA k ty z) ty) (q : ¬ z < 0) : ArF Z h' a ty z.toNatClampNeg (fun _ => defaultValue ty) :=
  ⟨_, A, sz_new _ _ _, (back32 q).2, fun i hi => by simp [newA, hi]⟩
theorem own_ldI (X : Stand p l e R s m args below meth c T locs cells slots) (hx : p.tables.exec = Jvm.exec) (hZ : Z.Warmed39 s.vm) (eT : T.heap = h) {a : Addr} {n : Nat} {f : Nat → Value} (A : ArF Z h a .int n f) {j : Int32} (h1 : 0 ≤ j.toInt) (h2 : j.toInt < n) {v : Value} (hv : f j.toNatClampNeg = v)
    {g : JFrame} (hg : g.method = m) {rest : List Value} (hs : g.stack = .int j :: .ref a :: rest) (hd : decode c.code g.pc = .ok (.iaload, 1)) (target : State) (k : Steps p.tables e below (T.setTop { g with pc := g.pc + 1, stack := v :: rest }) target) : Steps p.tables e below (T.setTop g) target := by
  obtain ⟨cl, Ar, S, -, H⟩ := A
  exact X.iaload hx (j := j) (v := v) (by rw [eT]; exact Ar.1) (State.isArrayOf_alike hZ.alike Ar.2.1) Ar.2.2 (own_in S h1 h2) (by have e := Int.toNat_of_nonneg h1; rw [← hv]; exact H _ (by show j.toInt.toNat < n; omega)) hg hs hd _ k
theorem own_ldJ (X : Stand p l e R s m args below meth c T locs cells slots) (hx : p.tables.exec = Jvm.exec) (hZ : Z.Warmed39 s.vm) (eT : T.heap = h) {a : Addr} {n : Nat} {f : Nat → Value} (A : ArF Z h a .long n f) {j : Int32} (h1 : 0 ≤ j.toInt) (h2 : j.toInt < n) {v : Value} (hv : f j.toNatClampNeg = v)
    {g : JFrame} (hg : g.method = m) {rest : List Value} (hs : g.stack = .int j :: .ref a :: rest) (hd : decode c.code g.pc = .ok (.laload, 1)) (target : State) (k : Steps p.tables e below (T.setTop { g with pc := g.pc + 1, stack := v :: rest }) target) : Steps p.tables e below (T.setTop g) target := by
  obtain ⟨cl, Ar, S, -, H⟩ := A
  exact X.laload hx (j := j) (v := v) (by rw [eT]; exact Ar.1) (State.isArrayOf_alike hZ.alike Ar.2.1) Ar.2.2 (own_in S h1 h2) (by have e := Int.toNat_of_nonneg h1; rw [← hv]; exact H _ (by show j.toInt.toNat < n; omega)) hg hs hd _ k
theorem own_ldB (X : Stand p l e R s m args below meth c T locs cells slots) (hx : p.tables.exec = Jvm.exec) (hZ : Z.Warmed39 s.vm) (eT : T.heap = h) {a : Addr} {n : Nat} {f : Nat → Value} (A : ArF Z h a .byte n f) {j : Int32} (h1 : 0 ≤ j.toInt) (h2 : j.toInt < n) {v : Value} (hv : f j.toNatClampNeg = v)
    {g : JFrame} (hg : g.method = m) {rest : List Value} (hs : g.stack = .int j :: .ref a :: rest) (hd : decode c.code g.pc = .ok (.baload, 1)) (target : State) (k : Steps p.tables e below (T.setTop { g with pc := g.pc + 1, stack := v :: rest }) target) : Steps p.tables e below (T.setTop g) target := by
  obtain ⟨cl, Ar, S, -, H⟩ := A
  exact X.baloadBytes hx (j := j) (v := v) (by rw [eT]; exact Ar.1) (State.isArrayOf_alike hZ.alike Ar.2.1) Ar.2.2 (own_in S h1 h2) (by have e := Int.toNat_of_nonneg h1; rw [← hv]; exact H _ (by show j.toInt.toNat < n; omega)) hg hs hd _ k
theorem own_ldC (X : Stand p l e R s m args below meth c T locs cells slots) (hx : p.tables.exec = Jvm.exec) (hZ : Z.Warmed39 s.vm) (eT : T.heap = h) {a : Addr} {n : Nat} {f : Nat → Value} (A : ArF Z h a .char n f) {j : Int32} (h1 : 0 ≤ j.toInt) (h2 : j.toInt < n) {v : Value} (hv : f j.toNatClampNeg = v)
    {g : JFrame} (hg : g.method = m) {rest : List Value} (hs : g.stack = .int j :: .ref a :: rest) (hd : decode c.code g.pc = .ok (.caload, 1)) (target : State) (k : Steps p.tables e below (T.setTop { g with pc := g.pc + 1, stack := v :: rest }) target) : Steps p.tables e below (T.setTop g) target := by
  obtain ⟨cl, Ar, S, -, H⟩ := A
  exact X.caload hx (j := j) (v := v) (by rw [eT]; exact Ar.1) (State.isArrayOf_alike hZ.alike Ar.2.1) Ar.2.2 (own_in S h1 h2) (by have e := Int.toNat_of_nonneg h1; rw [← hv]; exact H _ (by show j.toInt.toNat < n; omega)) hg hs hd _ k
theorem own_len (X : Stand p l e R s m args below meth c T locs cells slots) (hx : p.tables.exec = Jvm.exec) (hZ : Z.Warmed39 s.vm) (eT : T.heap = h) {a : Addr} {ty : FieldType} {n : Nat} {f : Nat → Value} (A : ArF Z h a ty n f) {z : Int32} (hz : Int32.ofNat n = z)
    {g : JFrame} (hg : g.method = m) {rest : List Value} (hs : g.stack = .ref a :: rest) (hd : decode c.code g.pc = .ok (.arraylength, 1)) (target : State) (k : Steps p.tables e below (T.setTop { g with pc := g.pc + 1, stack := .int z :: rest }) target) : Steps p.tables e below (T.setTop g) target := by
  obtain ⟨cl, Ar, S, -, H⟩ := A
  refine X.arraylength hx (by rw [eT]; exact Ar.1) (State.isArrayOf_alike hZ.alike Ar.2.1) hg hs hd _ ?_
  rw [S]; rw [← hz] at k; exact k
theorem own_stI (X : Stand p l e R s m args below meth c T locs cells slots) (hx : p.tables.exec = Jvm.exec) (hZ : Z.Warmed39 s.vm) (eT : T.heap = h) {a : Addr} {n : Nat} {f : Nat → Value} (A : ArF Z h a .int n f) {j x : Int32} (h1 : 0 ≤ j.toInt) (h2 : j.toInt < n)
    {g : JFrame} (hg : g.method = m) {rest : List Value} (hs : g.stack = .int x :: .int j :: .ref a :: rest) (hd : decode c.code g.pc = .ok (.iastore, 1)) :
    ∃ T' h', Stand p l e R s m args below meth c T' (locs ++ [⟨a, j.toNatClampNeg⟩]) cells slots ∧ T'.heap = h' ∧ Wr h h' a j.toNatClampNeg (.int x) ∧ ∀ target, Steps p.tables e below (T'.setTop { g with pc := g.pc + 1, stack := rest }) target → Steps p.tables e below (T.setTop g) target := by
  obtain ⟨cl, Ar, S, -, H⟩ := A
  exact stI X hx hZ eT Ar (own_in S h1 h2) hg hs hd
theorem own_stJ (X : Stand p l e R s m args below meth c T locs cells slots) (hx : p.tables.exec = Jvm.exec) (hZ : Z.Warmed39 s.vm) (eT : T.heap = h) {a : Addr} {n : Nat} {f : Nat → Value} (A : ArF Z h a .long n f) {j : Int32} {x : Int64} (h1 : 0 ≤ j.toInt) (h2 : j.toInt < n)
    {g : JFrame} (hg : g.method = m) {rest : List Value} (hs : g.stack = .long x :: .int j :: .ref a :: rest) (hd : decode c.code g.pc = .ok (.lastore, 1)) :
    ∃ T' h', Stand p l e R s m args below meth c T' (locs ++ [⟨a, j.toNatClampNeg⟩]) cells slots ∧ T'.heap = h' ∧ Wr h h' a j.toNatClampNeg (.long x) ∧ ∀ target, Steps p.tables e below (T'.setTop { g with pc := g.pc + 1, stack := rest }) target → Steps p.tables e below (T.setTop g) target := by
  obtain ⟨cl, Ar, S, -, H⟩ := A
  exact stJ X hx hZ eT Ar (own_in S h1 h2) hg hs hd
/-- a boolean as an int -/
def bI (P : Prop) [Decidable P] : Int32 := if P then 1 else 0
theorem bI_z {P : Prop} [Decidable P] (h : ¬ P) : bI P = 0 := if_neg h
theorem bI_o {P : Prop} [Decidable P] (h : P) : bI P = 1 := if_pos h
theorem bI_ne {P : Prop} [Decidable P] (h : P) : ¬ bI P = 0 := by rw [bI_o h]; decide
theorem nar_b {P : Prop} [Decidable P] : nar .boolean (bI P) = bI P := by unfold bI; split <;> rfl
end OwnKit
section OwnKit2
variable {p : Program} {l : Launch} {e : Env} {R : Room} {s : State} {m : MethodId} {args : Array Value} {below : List Frame} {meth : Method} {c : Code} {T : State} {locs : List Loc} {cells slots : Nat} {Z : State} {a0 : Array Value} {h : Heap}
theorem ArF.arv {h : Heap} {a : Addr} {ty : FieldType} {n : Nat} {f : Nat → Value} (F : ArF Z h a ty n f) (hf : ∀ i, i < n → fits ty (f i) = true) (dv : Value) : ∃ k, Arv Z h a k ty (Int32.ofNat n) ((List.range n).map f) dv := by
  obtain ⟨c, A, r1, r2, r3⟩ := F
  have g : ∀ i, i < n → ((List.range n).map f).getD i dv = f i := fun i hi => by simp [List.getD_eq_getElem?_getD, hi]
  refine ⟨c.cls, c, A, rfl, by rw [own_ofC r2]; exact r1, ?_, fun i hi => ?_, fun i hi => ?_⟩
  · rw [Int32.lt_iff_toInt_lt, own_ofN r2]; have : (0 : Int32).toInt = 0 := rfl; omega
  · rw [g i (by omega)]; exact r3 i (by omega)
  · rw [g i (by omega)]; exact hf i (by omega)
theorem ArF.of_arv {h : Heap} {a : Addr} {k : ClassId} {ty : FieldType} {z : Int32} {vs : List Value} {dv : Value} (F : Arv Z h a k ty z vs dv) : ArF Z h a ty z.toNatClampNeg (fun i => vs.getD i dv) := by
  obtain ⟨c, A, -, r1, r2, H, -⟩ := F
  exact ⟨c, A, r1, (back32 r2).2, fun i hi => H i (by omega)⟩
/-- System.arraycopy of primitives -/
theorem own_cp (X : Stand p l e R s m args below meth c T locs cells slots) (hx : p.tables.exec = Jvm.exec) (hZ : Z.Warmed39 s.vm) {own : String} {index : Nat} (hown : s.vm.findClass own = some m.cls)
    (w1 : (Jvm.Cond.methodLink own index Jvm.Stand.acN).before a0 Z = true) (w2 : (Jvm.Cond.native Jvm.Stand.acN).before a0 Z = true) (w3 : (Jvm.Cond.static Jvm.Stand.acN).before a0 Z = true) (w4 : (Jvm.Cond.initialized "java/lang/System").before a0 Z = true) (eT : T.heap = h)
    {a b : Addr} {ty : FieldType} (hty : refKind ty = false) {n n' : Nat} {f f' : Nat → Value} (A : ArF Z h a ty n f) (B : ArF Z h b ty n' f') (fa : ∀ i, i < n → fits ty (f i) = true) (fb : ∀ i, i < n' → fits ty (f' i) = true)
    {sp dp nn : Int32} (h1 : 0 ≤ sp.toInt) (h2 : 0 ≤ dp.toInt) (h3 : 0 ≤ nn.toInt) (h4 : sp.toInt + nn.toInt ≤ n) (h5 : dp.toInt + nn.toInt ≤ n') {n0 : Nat} (N : Fr n0 locs) (ge : n0 ≤ b)
    {g : JFrame} (hg : g.method = m) (hsize : g.locals.size = c.maxLocals) {rest : List Value} (hs : g.stack = .int nn :: .int dp :: .ref b :: .int sp :: .ref a :: rest) (hd : decode c.code g.pc = .ok (.invokestatic index, 3))
    (hf : 1 ≤ R.frames) {W : Nat} (hW : 2 * g.monitorRoom + (rest.map fun v => v.category).sum ≤ W) (hlo : W + (nativeFrameWords "java/lang/System" "arraycopy" 5 + 11) ≤ R.locals) :
    ∃ T' h' L, Stand p l e R s m args below meth c T' L cells slots ∧ T'.heap = h' ∧ Fr n0 L ∧ Keep h h' [b] ∧ ArF Z h' b ty n' (fun i => if dp.toNatClampNeg ≤ i ∧ i < dp.toNatClampNeg + nn.toNatClampNeg then f (sp.toNatClampNeg + (i - dp.toNatClampNeg)) else f' i) ∧
      ∀ target, Steps p.tables e below (T'.setTop { g with pc := g.pc + 3, stack := rest }) target → Steps p.tables e below (T.setTop g) target := by
  have nA := A.n31; have nB := B.n31
  have z0 : (0 : Int32).toInt = 0 := rfl
  have k1 := own_nat h1; have k2 := own_nat h2; have k3 := own_nat h3
  obtain ⟨ka, VA⟩ := A.arv fa .null
  obtain ⟨kb, VB⟩ := B.arv fb .null
  obtain ⟨T', h', L, X', eh, N', K', V', st⟩ := cpA X hx hZ hown w1 w2 w3 w4 eT VA VB (Or.inl ⟨rfl, hty⟩) (by rw [Int32.lt_iff_toInt_lt]; omega) (by rw [Int32.lt_iff_toInt_lt]; omega) (by rw [Int32.lt_iff_toInt_lt]; omega) (sp := sp) (dp := dp) (nn := nn)
    (by rw [own_ofC nA]; omega) (by rw [own_ofC nB]; omega) rfl (by simp; omega) N ge hg hsize hs hd hf hW hlo
  refine ⟨T', h', L, X', eh, N', K', ?_, st⟩
  have V := ArF.of_arv V'
  rw [own_ofC nB] at V
  refine V.congr fun i hi => ?_
  have lt : (List.take dp.toNatClampNeg ((List.range n').map f')).length = dp.toNatClampNeg := by rw [List.length_take]; simp; omega
  have lu : ((List.range nn.toNatClampNeg).map fun i => ((List.range n).map f).getD (sp.toNatClampNeg + i) Value.null).length = nn.toNatClampNeg := by simp
  simp only [List.getD_eq_getElem?_getD]
  by_cases c1 : i < dp.toNatClampNeg
  · rw [if_neg (by omega), List.append_assoc, List.getElem?_append_left (by omega), List.getElem?_take_of_lt c1]
    simp [hi]
  · by_cases c2 : i < dp.toNatClampNeg + nn.toNatClampNeg
    · rw [if_pos ⟨by omega, c2⟩, List.getElem?_append_left (by rw [List.length_append, lt]; simp; omega), List.getElem?_append_right (by omega), lt]
      have q1 : i - dp.toNatClampNeg < nn.toNatClampNeg := by omega
      have q2 : sp.toNatClampNeg + (i - dp.toNatClampNeg) < n := by omega
      simp [q1, q2]
    · rw [if_neg (by omega), List.getElem?_append_right (by rw [List.length_append, lt]; simp; omega), List.length_append, lt, List.getElem?_drop]
      have q : dp.toNatClampNeg + nn.toNatClampNeg + (i - (dp.toNatClampNeg + nn.toNatClampNeg)) = i := by omega
      simp [q, hi]
/-- getfield whose entry is resolved -/
theorem own_getR (X : Stand p l e R s m args below meth c T locs cells slots) (hx : p.tables.exec = Jvm.exec) (hZ : Z.Warmed39 s.vm) {own O n d : String} {index : Nat} (hown : s.vm.findClass own = some m.cls) (w : (Jvm.Cond.fieldRef own index O n d).before a0 Z = true)
    (eT : T.heap = h) {a : Addr} {v : Value} (F : Fld Z h a O n d v) {g : JFrame} (hg : g.method = m) {rest : List Value} (hs : g.stack = .ref a :: rest) (hd : decode c.code g.pc = .ok (.getfield index, 3)) (target : State)
    (k : Steps p.tables e below (T.setTop { g with pc := g.pc + 3, stack := v :: rest }) target) : Steps p.tables e below (T.setTop g) target := by
  obtain ⟨cell, cf, kk, i, f, h1, h2, h3, h4, -, -, h7⟩ := F
  have hZT : Z.Warmed39 T.vm := wtrans hZ X.warmed
  have wT := Cond.fieldRef_warmed39 hZT w
  have hcur : (Z.setVm T.vm).vm.findClass own = some m.cls := by show T.vm.findClass own = _; rw [X.warmed.alike.findClass]; exact hown
  obtain ⟨c', k', i', f', q1, q2⟩ := Cond.fieldRef_spec (s := Z.setVm T.vm) (cur := m.cls) hcur wT
  obtain ⟨k'', hi, -⟩ := State.fieldFound?_setVm (s := Z) hZT.alike h2
  cases hi.symm.trans q1
  subst hg
  jvm_step X.here [hx, hd, getfield.wp_ready (e := e) (s := T) (f := g) X.here.top q2 h3 hs (by rw [eT]; exact h1) h4 h7]
  exact k
/-- a constructor by its contract, where the call's entry is resolved -/
theorem own_callIR (X : Stand p l e R s m args below meth c T locs cells slots) (hx : p.tables.exec = Jvm.exec) (hZ : Z.Warmed39 s.vm) {own : String} {index : Nat} {y : MethodName} {bytes : ByteArray} {maxL : Nat} (hy1 : y.name = "<init>") (hown : s.vm.findClass own = some m.cls)
    (w1 : (Jvm.Cond.methodRef own index y).before a0 Z = true) (w4 : (Jvm.Cond.instanceMethod y).before a0 Z = true) (w5 : (Jvm.Cond.initialized y.cls).before a0 Z = true) (w6 : (Jvm.Cond.code y bytes maxL none).before a0 Z = true) (hy : y.cls ≠ "java/lang/invoke/MethodHandle" ∧ y.cls ≠ "java/lang/invoke/VarHandle")
    {b : Addr} {rm : Room} {as' : Array Value} {Q : Option Value → Heap → List Loc → Prop} {W kc ks : Nat} (hM : Con l Z y bytes maxL none [] rm kc ks as' h Q) (hkc : rm.cells = kc) (hks : rm.slots = ks) (eT : T.heap = h) (hf : rm.frames + 1 ≤ R.frames) (hl : W + (maxL + 11) + rm.locals ≤ R.locals)
    {g : JFrame} (hg : g.method = m) (hsize : g.locals.size = c.maxLocals) {argsL rest : List Value} (hlen : ∀ sig, parseMethodDescriptor y.desc = some sig → argsL.length = sig.parameters.length) (hstack : g.stack = argsL.reverse ++ .ref b :: rest) (hW : 2 * g.monitorRoom + (rest.map fun v => v.category).sum ≤ W)
    (hdg : decode c.code g.pc = .ok (.invokespecial index, 3)) (has : (.ref b :: argsL).toArray = as') (hc : cells + kc ≤ R.cells) (hs : slots + ks ≤ R.slots) :
    ∃ v T' L, Stand p l e R s m args below meth c T' (locs ++ L) (cells + kc) (slots + ks) ∧ Q v T'.heap L ∧ ∀ target, Steps p.tables e below (T'.setTop { g with pc := g.pc + 3, stack := v.toList ++ rest }) target → Steps p.tables e below (T.setTop g) target := by
  subst hkc hks
  have hinst : (Jvm.Cond.instanceMethod y).before args s = true := mvT hZ w4
  have hcode : (Jvm.Cond.code y bytes maxL none).before args s = true := mvT hZ w6
  obtain ⟨obj, methO, hnO, hmO, hstO, habO⟩ := Cond.instanceMethod_spec hinst
  obtain ⟨methO', cO, hmO', hcO, hbO, hlO, -, hlockO, -, hsigO⟩ := Cond.code_spec hnO hcode
  cases hmO.symm.trans hmO'
  obtain ⟨kO, hkO, hnameO⟩ := className_of_methodNamed hnO
  obtain ⟨hnameMO, hdescO⟩ := name_of_methodNamed hnO hmO
  obtain ⟨objZ, methZ, hnZ, -⟩ := Cond.instanceMethod_spec w4
  have hZT : Z.Warmed39 T.vm := wtrans hZ X.warmed
  have wT := Cond.methodRef_warmed39 hZT hnZ hy w1
  have hcur : (Z.setVm T.vm).vm.findClass own = some m.cls := by show T.vm.findClass own = _; rw [X.warmed.alike.findClass]; exact hown
  obtain ⟨m1, c1, q1, q2, q3, q4⟩ := Cond.methodRef_named e (s := Z.setVm T.vm) (cur := m.cls) hcur wT
  have hnT : T.methodNamed? y = some obj := X.named hnO
  have hnT' : (Z.setVm T.vm).methodNamed? y = some obj := hnT
  have e1 : m1 = obj := by
    have := State.methodFound?_of_named hnT' hy
    rw [q1] at this; exact Option.some.inj this
  subst e1
  have e2 : c1 = m1.cls := Option.some.inj (q3.symm.trans (findClass_of_methodNamed hnT'))
  subst e2
  obtain ⟨kT, hkT, heT⟩ := X.warmed.alike.2.2 _ _ hkO
  have hmT : T.vm.method? m1 = some methO := by rw [X.warmed.alike.method?]; exact hmO
  have hfound : lookupSpecial T.vm m1.cls "<init>" methO.desc = .method m1 := by
    rw [X.warmed.alike.lookupSpecial, hdescO, ← hy1]; exact lookupSpecial_of_named hnO hmO hstO
  have hK := backOf (W := W) (R := R) (p := p) (e := e) (below := below) (args := args) (len := 3) hM hZ w6 w5 hf hl
  obtain ⟨v, ⟨T', L', c', s'⟩, X', ⟨L, hq, l1, l2, l3⟩, st⟩ := hK m meth c ⟨T, locs, cells, slots⟩ { g with stack := rest } (.invokespecial index) m1 (.ref b :: argsL).toArray X hg hsize hdg hW hnT ⟨has, eT, hc, hs⟩
  dsimp only [Pt.U, Pt.locs, Pt.cells, Pt.slots] at X' l1 l2 l3 st hq
  subst l1 l2 l3
  refine ⟨v, T', L, X', hq, fun target k => ?_⟩
  subst hg
  jvm_step X.here [hx, hdg, invokespecial.wp_init (e := e) (s := T) (k := kT) (meth := methO) (m := m1) (a := b) (args := argsL) (rest := rest) (f := g) X.here.top q4 q2 hkT hmT (by rw [hnameMO]; exact hy1) hstO habO hfound (hlen _ hsigO) hstack]
  intro acts
  rw [doInvoke_state]
  exact st.trans k
theorem own_stD (X : Stand p l e R s m args below meth c T locs cells slots) (hx : p.tables.exec = Jvm.exec) (hZ : Z.Warmed39 s.vm) (eT : T.heap = h) {a : Addr} {n : Nat} {f : Nat → Value} (A : ArF Z h a .double n f) {j : Int32} {x : UInt64} (h1 : 0 ≤ j.toInt) (h2 : j.toInt < n)
    {g : JFrame} (hg : g.method = m) {rest : List Value} (hs : g.stack = .double x :: .int j :: .ref a :: rest) (hd : decode c.code g.pc = .ok (.dastore, 1)) :
    ∃ T' h', Stand p l e R s m args below meth c T' (locs ++ [⟨a, j.toNatClampNeg⟩]) cells slots ∧ T'.heap = h' ∧ Wr h h' a j.toNatClampNeg (.double x) ∧ ∀ target, Steps p.tables e below (T'.setTop { g with pc := g.pc + 1, stack := rest }) target → Steps p.tables e below (T.setTop g) target := by
  obtain ⟨cl, Ar, S, -, H⟩ := A
  exact stD X hx hZ eT Ar (own_in S h1 h2) hg hs hd
end OwnKit2
def own_K (Z : State) (h : Heap) (o : Addr) (n0 : Nat) (z : Int32) (n : Nat) (f : Nat → Int32) : Prop :=
  ∃ (K B : Addr) (g : Nat → UInt64), Exa Z h o "org/eventropy/core/SmallProbabilities$Keyed" ∧ Fld Z h o "org/eventropy/core/SmallProbabilities$Keyed" "keys" "[I" (.ref K) ∧ Fld Z h o "org/eventropy/core/SmallProbabilities$Keyed" "bits" "[D" (.ref B) ∧ Fld Z h o "org/eventropy/core/SmallProbabilities$Keyed" "size" "I" (.int z) ∧ ArF Z h K .int n (fun i => .int (f i)) ∧ ArF Z h B .double n (fun i => .double (g i)) ∧ (n0 ≤ o ∧ n0 ≤ K ∧ n0 ≤ B) ∧ o ≠ K ∧ o ≠ B ∧ K ≠ B
theorem own_K.ext {Z : State} {h h' : Heap} {o : Addr} {n0 n : Nat} {z : Int32} {f : Nat → Int32} (H : own_K Z h o n0 z n f) (E : Ext h h') : own_K Z h' o n0 z n f := by
  obtain ⟨K, B, g, a1, a2, a3, a4, a5, a6, r⟩ := H
  exact ⟨K, B, g, a1.ext E, a2.ext E, a3.ext E, a4.ext E, a5.ext E, a6.ext E, r⟩
theorem own_ne {Z : State} {h : Heap} {t b : Addr} {C : String} {k n : Nat} {a0 : Array Value} {ty : FieldType} {f : Nat → Value} (E : Exa Z h t C) (wi : (Jvm.Cond.instantiable C k).before a0 Z = true) (A : ArF Z h b ty n f) : b ≠ t := by
  obtain ⟨c, Ar, -⟩ := A; exact (ne_arr E wi Ar).symm
theorem own_K.keep {Z : State} {h h' : Heap} {o t : Addr} {n0 n k : Nat} {z : Int32} {f : Nat → Int32} {a0 : Array Value} {C : String} (H : own_K Z h o n0 z n f) (K' : Keep h h' [t]) (E : Exa Z h t C) (wi : (Jvm.Cond.instantiable C k).before a0 Z = true) (ne : o ≠ t) : own_K Z h' o n0 z n f := by
  obtain ⟨K, B, g, a1, a2, a3, a4, a5, a6, r⟩ := H
  have q1 := ninS ne (nin0 (x := o)); have q2 := ninS (own_ne E wi a5) (nin0 (x := K)); have q3 := ninS (own_ne E wi a6) (nin0 (x := B))
  exact ⟨K, B, g, a1.keep K', a2.keep K' q1, a3.keep K' q1, a4.keep K' q1, a5.keep K' q2, a6.keep K' q3, r⟩
theorem own_K.wr {Z : State} {h h' : Heap} {o t : Addr} {n0 n k sl : Nat} {v : Value} {z : Int32} {f : Nat → Int32} {a0 : Array Value} {C : String} (H : own_K Z h o n0 z n f) (W : Wr h h' t sl v) (E : Exa Z h t C) (wi : (Jvm.Cond.instantiable C k).before a0 Z = true) (ne : o ≠ t) : own_K Z h' o n0 z n f := H.keep (Keep.of_wr W) E wi ne
theorem own_K.exa {Z : State} {h : Heap} {o : Addr} {n0 n : Nat} {z : Int32} {f : Nat → Int32} (H : own_K Z h o n0 z n f) : Exa Z h o "org/eventropy/core/SmallProbabilities$Keyed" := by obtain ⟨_, _, _, E, -⟩ := H; exact E
theorem own_K.n0 {Z : State} {h : Heap} {o : Addr} {n0 n : Nat} {z : Int32} {f : Nat → Int32} (H : own_K Z h o n0 z n f) : n0 ≤ o := by obtain ⟨_, _, _, _, _, _, _, _, _, r, -⟩ := H; exact r.1
theorem own_K.size {Z : State} {h : Heap} {o : Addr} {n0 n : Nat} {z : Int32} {f : Nat → Int32} (H : own_K Z h o n0 z n f) : Fld Z h o "org/eventropy/core/SmallProbabilities$Keyed" "size" "I" (.int z) := by obtain ⟨_, _, _, _, _, _, s, -⟩ := H; exact s
theorem own_fitI {f : Nat → Int32} {n : Nat} : ∀ i, i < n → fits .int ((fun i => Value.int (f i)) i) = true := fun _ _ => rfl
theorem own_fitD {f : Nat → UInt64} {n : Nat} : ∀ i, i < n → fits .double ((fun i => Value.double (f i)) i) = true := fun _ _ => rfl
theorem own_updI (F : Nat → Int32) (j : Nat) (v : Int32) : upd (fun i => .int (F i)) j (.int v) = fun i => .int (if i = j then v else F i) := by
  funext i; unfold upd; split <;> rfl
theorem own_updD (F : Nat → UInt64) (j : Nat) (v : UInt64) : upd (fun i => .double (F i)) j (.double v) = fun i => .double (if i = j then v else F i) := by
  funext i; unfold upd; split <;> rfl
theorem own_pn0 : plainFor (⟨"java/lang/Math", "min", "(II)I"⟩ : MethodName) = true := by first | exact plainFor_of_name (by first | (simp [plainName, overriddenIn, x]; done) | decide +kernel) | decide +kernel
theorem ef_5 (m : MethodId) (q0 : Int32) (q1 : Int32) : entryFrame m #[(.int q0), (.int q1)] 2 = mkF m 0 #[.val (.int q0), .val (.int q1)] [] := by first | (simp [entryFrame, mkF, argsToLocals, Value.category, maxLocals]; done) | rfl
theorem d5_0 : decode jdk_29_method_69_code 0 = .ok (.iload_n 0, 1) := by decide +kernel
theorem d5_1 : decode jdk_29_method_69_code 1 = .ok (.iload_n 1, 1) := by decide +kernel
theorem d5_2 : decode jdk_29_method_69_code 2 = .ok (.if_icmp .gt 7, 3) := by decide +kernel
theorem d5_9 : decode jdk_29_method_69_code 9 = .ok (.iload_n 1, 1) := by decide +kernel
theorem d5_10 : decode jdk_29_method_69_code 10 = .ok (.ireturn, 1) := by decide +kernel
theorem d5_5 : decode jdk_29_method_69_code 5 = .ok (.iload_n 0, 1) := by decide +kernel
theorem d5_6 : decode jdk_29_method_69_code 6 = .ok (.goto 4, 3) := by decide +kernel
set_option maxRecDepth 65536 in
set_option maxHeartbeats 40000000 in
theorem own_c5 (l : Launch) (Z : State) (a0 : Array Value) (hw : ∀ d ∈ tables_1, d.before a0 Z = true) (u v : Int32) (h0 : Heap) :
    Con l Z (⟨"java/lang/Math", "min", "(II)I"⟩ : MethodName) jdk_29_method_69_code 2 (some .int) [] ({ frames := 0, cells := 0, slots := 0, locals := 0 } : Room) 0 0 #[(.int u), (.int v)] h0 (fun r h L => r = some (.int (if v < u then v else u)) ∧ h = h0 ∧ L = []) := by
  refine Con.of own_pn0 ?_
  intro pg ev s_ m bl mt cd s₁ hx hby hml hown hnm hret hlk hZ X0 e0
  rw [ef_5]
  show Gd _ _ _ _ (s₁.setTop (mkF m 0 #[.val (.int u), .val (.int v)] []))
  refine Gd.go (fun _ w_k => XS.iloadN X0.here hx rfl (hb hby d5_0) rfl w_k) ?_
  show Gd _ _ _ _ (s₁.setTop (mkF m 1 #[.val (.int u), .val (.int v)] [(.int u)]))
  refine Gd.go (fun _ w_k => XS.iloadN X0.here hx rfl (hb hby d5_1) rfl w_k) ?_
  show Gd _ _ _ _ (s₁.setTop (mkF m 2 #[.val (.int u), .val (.int v)] [(.int v), (.int u)]))
  by_cases hc1 : v < u
  · refine Gd.go (fun _ w_k => XS.icmpYes X0.here hx rfl (pc0 := 2) (pc' := 9) rfl (hb hby d5_2) rfl (tlt hc1).2.2.1 (by decide) (by decide) w_k) ?_
    show Gd _ _ _ _ (s₁.setTop (mkF m 9 #[.val (.int u), .val (.int v)] []))
    refine Gd.go (fun _ w_k => XS.iloadN X0.here hx rfl (hb hby d5_9) rfl w_k) ?_
    show Gd _ _ _ _ (s₁.setTop (mkF m 10 #[.val (.int u), .val (.int v)] [(.int v)]))
    refine own_retI X0 hx hret hlk (hb hby d5_10) ?_ (by decide) (by decide)
    exact ⟨by rw [if_pos hc1], e0, rfl⟩
  · refine Gd.go (fun _ w_k => XS.icmpNo X0.here hx rfl (hb hby d5_2) rfl (flt hc1).2.2.1 w_k) ?_
    show Gd _ _ _ _ (s₁.setTop (mkF m 5 #[.val (.int u), .val (.int v)] []))
    refine Gd.go (fun _ w_k => XS.iloadN X0.here hx rfl (hb hby d5_5) rfl w_k) ?_
    show Gd _ _ _ _ (s₁.setTop (mkF m 6 #[.val (.int u), .val (.int v)] [(.int u)]))
    refine Gd.go (fun _ w_k => XS.goto X0.here hx rfl (pc0 := 6) (pc' := 10) rfl (hb hby d5_6) (by decide) (by decide) w_k) ?_
    show Gd _ _ _ _ (s₁.setTop (mkF m 10 #[.val (.int u), .val (.int v)] [(.int u)]))
    refine own_retI X0 hx hret hlk (hb hby d5_10) ?_ (by decide) (by decide)
    exact ⟨by rw [if_neg hc1], e0, rfl⟩
theorem own_pn1 : plainFor (⟨"java/lang/Math", "max", "(II)I"⟩ : MethodName) = true := by first | exact plainFor_of_name (by first | (simp [plainName, overriddenIn, x]; done) | decide +kernel) | decide +kernel
theorem ef_6 (m : MethodId) (q0 : Int32) (q1 : Int32) : entryFrame m #[(.int q0), (.int q1)] 2 = mkF m 0 #[.val (.int q0), .val (.int q1)] [] := by first | (simp [entryFrame, mkF, argsToLocals, Value.category, maxLocals]; done) | rfl
theorem d6_0 : decode jdk_29_method_65_code 0 = .ok (.iload_n 0, 1) := by decide +kernel
theorem d6_1 : decode jdk_29_method_65_code 1 = .ok (.iload_n 1, 1) := by decide +kernel
theorem d6_2 : decode jdk_29_method_65_code 2 = .ok (.if_icmp .lt 7, 3) := by decide +kernel
theorem d6_9 : decode jdk_29_method_65_code 9 = .ok (.iload_n 1, 1) := by decide +kernel
theorem d6_10 : decode jdk_29_method_65_code 10 = .ok (.ireturn, 1) := by decide +kernel
theorem d6_5 : decode jdk_29_method_65_code 5 = .ok (.iload_n 0, 1) := by decide +kernel
theorem d6_6 : decode jdk_29_method_65_code 6 = .ok (.goto 4, 3) := by decide +kernel
set_option maxRecDepth 65536 in
set_option maxHeartbeats 40000000 in
theorem own_c6 (l : Launch) (Z : State) (a0 : Array Value) (hw : ∀ d ∈ tables_1, d.before a0 Z = true) (u v : Int32) (h0 : Heap) :
    Con l Z (⟨"java/lang/Math", "max", "(II)I"⟩ : MethodName) jdk_29_method_65_code 2 (some .int) [] ({ frames := 0, cells := 0, slots := 0, locals := 0 } : Room) 0 0 #[(.int u), (.int v)] h0 (fun r h L => r = some (.int (if u < v then v else u)) ∧ h = h0 ∧ L = []) := by
  refine Con.of own_pn1 ?_
  intro pg ev s_ m bl mt cd s₁ hx hby hml hown hnm hret hlk hZ X0 e0
  rw [ef_6]
  show Gd _ _ _ _ (s₁.setTop (mkF m 0 #[.val (.int u), .val (.int v)] []))
  refine Gd.go (fun _ w_k => XS.iloadN X0.here hx rfl (hb hby d6_0) rfl w_k) ?_
  show Gd _ _ _ _ (s₁.setTop (mkF m 1 #[.val (.int u), .val (.int v)] [(.int u)]))
  refine Gd.go (fun _ w_k => XS.iloadN X0.here hx rfl (hb hby d6_1) rfl w_k) ?_
  show Gd _ _ _ _ (s₁.setTop (mkF m 2 #[.val (.int u), .val (.int v)] [(.int v), (.int u)]))
  by_cases hc1 : u < v
  · refine Gd.go (fun _ w_k => XS.icmpYes X0.here hx rfl (pc0 := 2) (pc' := 9) rfl (hb hby d6_2) rfl (tlt hc1).1 (by decide) (by decide) w_k) ?_
    show Gd _ _ _ _ (s₁.setTop (mkF m 9 #[.val (.int u), .val (.int v)] []))
    refine Gd.go (fun _ w_k => XS.iloadN X0.here hx rfl (hb hby d6_9) rfl w_k) ?_
    show Gd _ _ _ _ (s₁.setTop (mkF m 10 #[.val (.int u), .val (.int v)] [(.int v)]))
    refine own_retI X0 hx hret hlk (hb hby d6_10) ?_ (by decide) (by decide)
    exact ⟨by rw [if_pos hc1], e0, rfl⟩
  · refine Gd.go (fun _ w_k => XS.icmpNo X0.here hx rfl (hb hby d6_2) rfl (flt hc1).1 w_k) ?_
    show Gd _ _ _ _ (s₁.setTop (mkF m 5 #[.val (.int u), .val (.int v)] []))
    refine Gd.go (fun _ w_k => XS.iloadN X0.here hx rfl (hb hby d6_5) rfl w_k) ?_
    show Gd _ _ _ _ (s₁.setTop (mkF m 6 #[.val (.int u), .val (.int v)] [(.int u)]))
    refine Gd.go (fun _ w_k => XS.goto X0.here hx rfl (pc0 := 6) (pc' := 10) rfl (hb hby d6_6) (by decide) (by decide) w_k) ?_
    show Gd _ _ _ _ (s₁.setTop (mkF m 10 #[.val (.int u), .val (.int v)] [(.int u)]))
    refine own_retI X0 hx hret hlk (hb hby d6_10) ?_ (by decide) (by decide)
    exact ⟨by rw [if_neg hc1], e0, rfl⟩
theorem own_pn2 : plainFor (⟨"java/lang/Math", "max", "(JJ)J"⟩ : MethodName) = true := by first | exact plainFor_of_name (by first | (simp [plainName, overriddenIn, x]; done) | decide +kernel) | decide +kernel
theorem ef_10 (m : MethodId) (q0 : Int64) (q1 : Int64) : entryFrame m #[(.long q0), (.long q1)] 4 = mkF m 0 #[.val (.long q0), .second, .val (.long q1), .second] [] := by first | (simp [entryFrame, mkF, argsToLocals, Value.category, maxLocals]; done) | rfl
theorem d10_0 : decode jdk_29_method_66_code 0 = .ok (.lload_n 0, 1) := by decide +kernel
theorem d10_1 : decode jdk_29_method_66_code 1 = .ok (.lload_n 2, 1) := by decide +kernel
theorem d10_2 : decode jdk_29_method_66_code 2 = .ok (.lcmp, 1) := by decide +kernel
theorem d10_3 : decode jdk_29_method_66_code 3 = .ok (.ifCond .lt 7, 3) := by decide +kernel
theorem d10_10 : decode jdk_29_method_66_code 10 = .ok (.lload_n 2, 1) := by decide +kernel
theorem d10_11 : decode jdk_29_method_66_code 11 = .ok (.lreturn, 1) := by decide +kernel
theorem d10_6 : decode jdk_29_method_66_code 6 = .ok (.lload_n 0, 1) := by decide +kernel
theorem d10_7 : decode jdk_29_method_66_code 7 = .ok (.goto 4, 3) := by decide +kernel
set_option maxRecDepth 65536 in
set_option maxHeartbeats 40000000 in
theorem own_c10 (l : Launch) (Z : State) (a0 : Array Value) (hw : ∀ d ∈ tables_1, d.before a0 Z = true) (u v : Int64) (h0 : Heap) :
    Con l Z (⟨"java/lang/Math", "max", "(JJ)J"⟩ : MethodName) jdk_29_method_66_code 4 (some .long) [] ({ frames := 0, cells := 0, slots := 0, locals := 0 } : Room) 0 0 #[(.long u), (.long v)] h0 (fun r h L => r = some (.long (if u < v then v else u)) ∧ h = h0 ∧ L = []) := by
  refine Con.of own_pn2 ?_
  intro pg ev s_ m bl mt cd s₁ hx hby hml hown hnm hret hlk hZ X0 e0
  rw [ef_10]
  show Gd _ _ _ _ (s₁.setTop (mkF m 0 #[.val (.long u), .second, .val (.long v), .second] []))
  refine Gd.go (fun _ w_k => XS.lloadN X0.here hx rfl (hb hby d10_0) rfl w_k) ?_
  show Gd _ _ _ _ (s₁.setTop (mkF m 1 #[.val (.long u), .second, .val (.long v), .second] [(.long u)]))
  refine Gd.go (fun _ w_k => XS.lloadN X0.here hx rfl (hb hby d10_1) rfl w_k) ?_
  show Gd _ _ _ _ (s₁.setTop (mkF m 2 #[.val (.long u), .second, .val (.long v), .second] [(.long v), (.long u)]))
  refine Gd.go (fun _ w_k => XS.lcmp X0.here hx rfl (hb hby d10_2) rfl w_k) ?_
  show Gd _ _ _ _ (s₁.setTop (mkF m 3 #[.val (.long u), .second, .val (.long v), .second] [(.int (lcmpW u v))]))
  by_cases hc1 : u < v
  · refine Gd.go (fun _ w_k => XS.ifYes X0.here hx rfl (pc0 := 3) (pc' := 10) rfl (hb hby d10_3) rfl ((if0 _ _).trans (tlt ((lw_lt _ _).mpr hc1)).1) (by decide) (by decide) w_k) ?_
    show Gd _ _ _ _ (s₁.setTop (mkF m 10 #[.val (.long u), .second, .val (.long v), .second] []))
    refine Gd.go (fun _ w_k => XS.lloadN X0.here hx rfl (hb hby d10_10) rfl w_k) ?_
    show Gd _ _ _ _ (s₁.setTop (mkF m 11 #[.val (.long u), .second, .val (.long v), .second] [(.long v)]))
    refine own_retL X0 hx hret hlk (hb hby d10_11) ?_ (by decide) (by decide)
    exact ⟨by rw [if_pos hc1], e0, rfl⟩
  · refine Gd.go (fun _ w_k => XS.ifNo X0.here hx rfl (hb hby d10_3) rfl ((if0 _ _).trans (flt (fun q => hc1 ((lw_lt _ _).mp q))).1) w_k) ?_
    show Gd _ _ _ _ (s₁.setTop (mkF m 6 #[.val (.long u), .second, .val (.long v), .second] []))
    refine Gd.go (fun _ w_k => XS.lloadN X0.here hx rfl (hb hby d10_6) rfl w_k) ?_
    show Gd _ _ _ _ (s₁.setTop (mkF m 7 #[.val (.long u), .second, .val (.long v), .second] [(.long u)]))
    refine Gd.go (fun _ w_k => XS.goto X0.here hx rfl (pc0 := 7) (pc' := 11) rfl (hb hby d10_7) (by decide) (by decide) w_k) ?_
    show Gd _ _ _ _ (s₁.setTop (mkF m 11 #[.val (.long u), .second, .val (.long v), .second] [(.long u)]))
    refine own_retL X0 hx hret hlk (hb hby d10_11) ?_ (by decide) (by decide)
    exact ⟨by rw [if_neg hc1], e0, rfl⟩
theorem own_pn3 : plainFor (⟨"java/lang/Math", "min", "(JJ)J"⟩ : MethodName) = true := by first | exact plainFor_of_name (by first | (simp [plainName, overriddenIn, x]; done) | decide +kernel) | decide +kernel
theorem ef_11 (m : MethodId) (q0 : Int64) (q1 : Int64) : entryFrame m #[(.long q0), (.long q1)] 4 = mkF m 0 #[.val (.long q0), .second, .val (.long q1), .second] [] := by first | (simp [entryFrame, mkF, argsToLocals, Value.category, maxLocals]; done) | rfl
theorem d11_0 : decode jdk_29_method_70_code 0 = .ok (.lload_n 0, 1) := by decide +kernel
theorem d11_1 : decode jdk_29_method_70_code 1 = .ok (.lload_n 2, 1) := by decide +kernel
theorem d11_2 : decode jdk_29_method_70_code 2 = .ok (.lcmp, 1) := by decide +kernel
theorem d11_3 : decode jdk_29_method_70_code 3 = .ok (.ifCond .gt 7, 3) := by decide +kernel
theorem d11_10 : decode jdk_29_method_70_code 10 = .ok (.lload_n 2, 1) := by decide +kernel
theorem d11_11 : decode jdk_29_method_70_code 11 = .ok (.lreturn, 1) := by decide +kernel
theorem d11_6 : decode jdk_29_method_70_code 6 = .ok (.lload_n 0, 1) := by decide +kernel
theorem d11_7 : decode jdk_29_method_70_code 7 = .ok (.goto 4, 3) := by decide +kernel
set_option maxRecDepth 65536 in
set_option maxHeartbeats 40000000 in
theorem own_c11 (l : Launch) (Z : State) (a0 : Array Value) (hw : ∀ d ∈ tables_1, d.before a0 Z = true) (u v : Int64) (h0 : Heap) :
    Con l Z (⟨"java/lang/Math", "min", "(JJ)J"⟩ : MethodName) jdk_29_method_70_code 4 (some .long) [] ({ frames := 0, cells := 0, slots := 0, locals := 0 } : Room) 0 0 #[(.long u), (.long v)] h0 (fun r h L => r = some (.long (if v < u then v else u)) ∧ h = h0 ∧ L = []) := by
  refine Con.of own_pn3 ?_
  intro pg ev s_ m bl mt cd s₁ hx hby hml hown hnm hret hlk hZ X0 e0
  rw [ef_11]
  show Gd _ _ _ _ (s₁.setTop (mkF m 0 #[.val (.long u), .second, .val (.long v), .second] []))
  refine Gd.go (fun _ w_k => XS.lloadN X0.here hx rfl (hb hby d11_0) rfl w_k) ?_
  show Gd _ _ _ _ (s₁.setTop (mkF m 1 #[.val (.long u), .second, .val (.long v), .second] [(.long u)]))
  refine Gd.go (fun _ w_k => XS.lloadN X0.here hx rfl (hb hby d11_1) rfl w_k) ?_
  show Gd _ _ _ _ (s₁.setTop (mkF m 2 #[.val (.long u), .second, .val (.long v), .second] [(.long v), (.long u)]))
  refine Gd.go (fun _ w_k => XS.lcmp X0.here hx rfl (hb hby d11_2) rfl w_k) ?_
  show Gd _ _ _ _ (s₁.setTop (mkF m 3 #[.val (.long u), .second, .val (.long v), .second] [(.int (lcmpW u v))]))
  by_cases hc1 : v < u
  · refine Gd.go (fun _ w_k => XS.ifYes X0.here hx rfl (pc0 := 3) (pc' := 10) rfl (hb hby d11_3) rfl ((if0 _ _).trans (tlt ((lw_gt _ _).mpr hc1)).2.2.1) (by decide) (by decide) w_k) ?_
    show Gd _ _ _ _ (s₁.setTop (mkF m 10 #[.val (.long u), .second, .val (.long v), .second] []))
    refine Gd.go (fun _ w_k => XS.lloadN X0.here hx rfl (hb hby d11_10) rfl w_k) ?_
    show Gd _ _ _ _ (s₁.setTop (mkF m 11 #[.val (.long u), .second, .val (.long v), .second] [(.long v)]))
    refine own_retL X0 hx hret hlk (hb hby d11_11) ?_ (by decide) (by decide)
    exact ⟨by rw [if_pos hc1], e0, rfl⟩
  · refine Gd.go (fun _ w_k => XS.ifNo X0.here hx rfl (hb hby d11_3) rfl ((if0 _ _).trans (flt (fun q => hc1 ((lw_gt _ _).mp q))).2.2.1) w_k) ?_
    show Gd _ _ _ _ (s₁.setTop (mkF m 6 #[.val (.long u), .second, .val (.long v), .second] []))
    refine Gd.go (fun _ w_k => XS.lloadN X0.here hx rfl (hb hby d11_6) rfl w_k) ?_
    show Gd _ _ _ _ (s₁.setTop (mkF m 7 #[.val (.long u), .second, .val (.long v), .second] [(.long u)]))
    refine Gd.go (fun _ w_k => XS.goto X0.here hx rfl (pc0 := 7) (pc' := 11) rfl (hb hby d11_7) (by decide) (by decide) w_k) ?_
    show Gd _ _ _ _ (s₁.setTop (mkF m 11 #[.val (.long u), .second, .val (.long v), .second] [(.long u)]))
    refine own_retL X0 hx hret hlk (hb hby d11_11) ?_ (by decide) (by decide)
    exact ⟨by rw [if_neg hc1], e0, rfl⟩
theorem own_pn4 : plainFor (⟨"org/eventropy/core/AutomatonLayout", "grown", "(I)I"⟩ : MethodName) = true := by first | exact plainFor_of_name (by first | (simp [plainName, overriddenIn, x]; done) | decide +kernel) | decide +kernel
theorem ef_9 (m : MethodId) (q0 : Int32) : entryFrame m #[(.int q0)] 1 = mkF m 0 #[.val (.int q0)] [] := by first | (simp [entryFrame, mkF, argsToLocals, Value.category, maxLocals]; done) | rfl
theorem d9_0 : decode prog_19_method_11_code 0 = .ok (.iload_n 0, 1) := by decide +kernel
theorem d9_1 : decode prog_19_method_11_code 1 = .ok (.ldc 100, 2) := by decide +kernel
theorem d9_3 : decode prog_19_method_11_code 3 = .ok (.if_icmp .lt 17, 3) := by decide +kernel
theorem d9_20 : decode prog_19_method_11_code 20 = .ok (.lconst 1, 1) := by decide +kernel
theorem d9_21 : decode prog_19_method_11_code 21 = .ok (.ldc2_w 102, 3) := by decide +kernel
theorem d9_24 : decode prog_19_method_11_code 24 = .ok (.iload_n 0, 1) := by decide +kernel
theorem d9_25 : decode prog_19_method_11_code 25 = .ok (.i2l, 1) := by decide +kernel
theorem d9_26 : decode prog_19_method_11_code 26 = .ok (.lmul, 1) := by decide +kernel
theorem own_pd0 : parseMethodDescriptor "(JJ)J" = some ⟨[.long, .long], some .long⟩ := by decide +kernel
theorem d9_27 : decode prog_19_method_11_code 27 = .ok (.invokestatic 104, 3) := by decide +kernel
theorem d9_30 : decode prog_19_method_11_code 30 = .ok (.ldc2_w 110, 3) := by decide +kernel
theorem d9_33 : decode prog_19_method_11_code 33 = .ok (.invokestatic 112, 3) := by decide +kernel
theorem d9_36 : decode prog_19_method_11_code 36 = .ok (.l2i, 1) := by decide +kernel
theorem d9_37 : decode prog_19_method_11_code 37 = .ok (.ireturn, 1) := by decide +kernel
set_option maxRecDepth 65536 in
set_option maxHeartbeats 40000000 in
theorem own_c9_0 (l : Launch) (Z : State) (a0 : Array Value) (hw : ∀ d ∈ tables_1, d.before a0 Z = true) (h0 : Heap) :
    Con l Z (⟨"org/eventropy/core/AutomatonLayout", "grown", "(I)I"⟩ : MethodName) prog_19_method_11_code 1 (some .int) [] ({ frames := 1, cells := 0, slots := 0, locals := 17 } : Room) 0 0 #[(.int (0 : Int32))] h0 (fun r h L => r = some (.int (1 : Int32)) ∧ h = h0 ∧ L = []) := by
  refine Con.of own_pn4 ?_
  intro pg ev s_ m bl mt cd s₁ hx hby hml hown hnm hret hlk hZ X0 e0
  rw [ef_9]
  show Gd _ _ _ _ (s₁.setTop (mkF m 0 #[.val (.int (0 : Int32))] []))
  refine Gd.go (fun _ w_k => XS.iloadN X0.here hx rfl (hb hby d9_0) rfl w_k) ?_
  show Gd _ _ _ _ (s₁.setTop (mkF m 1 #[.val (.int (0 : Int32))] [(.int (0 : Int32))]))
  refine Gd.go (fun _ w_k => X0.ldcInt hx hown (mvT hZ (hw _ (List.mem_of_getElem? (i := 55) rfl))) (g := (mkF m 1 #[.val (.int (0 : Int32))] [(.int (0 : Int32))])) rfl (hb hby d9_1) _ w_k) ?_
  show Gd _ _ _ _ (s₁.setTop (mkF m 3 #[.val (.int (0 : Int32))] [(.int (2147483639 : Int32)), (.int (0 : Int32))]))
  refine Gd.go (fun _ w_k => XS.icmpYes X0.here hx rfl (pc0 := 3) (pc' := 20) rfl (hb hby d9_3) rfl (tlt (by decide)).1 (by decide) (by decide) w_k) ?_
  show Gd _ _ _ _ (s₁.setTop (mkF m 20 #[.val (.int (0 : Int32))] []))
  refine Gd.go (fun _ w_k => XS.lconst X0.here hx rfl (hb hby d9_20) w_k) ?_
  show Gd _ _ _ _ (s₁.setTop (mkF m 21 #[.val (.int (0 : Int32))] [(.long (1 : Int64))]))
  refine Gd.go (fun _ w_k => X0.ldc2Long hx hown (mvT hZ (hw _ (List.mem_of_getElem? (i := 56) rfl))) (g := (mkF m 21 #[.val (.int (0 : Int32))] [(.long (1 : Int64))])) rfl (hb hby d9_21) _ w_k) ?_
  show Gd _ _ _ _ (s₁.setTop (mkF m 24 #[.val (.int (0 : Int32))] [(.long (2 : Int64)), (.long (1 : Int64))]))
  refine Gd.go (fun _ w_k => XS.iloadN X0.here hx rfl (hb hby d9_24) rfl w_k) ?_
  show Gd _ _ _ _ (s₁.setTop (mkF m 25 #[.val (.int (0 : Int32))] [(.int (0 : Int32)), (.long (2 : Int64)), (.long (1 : Int64))]))
  refine Gd.go (fun _ w_k => XS.i2l X0.here hx rfl (hb hby d9_25) rfl w_k) ?_
  show Gd _ _ _ _ (s₁.setTop (mkF m 26 #[.val (.int (0 : Int32))] [(.long ((0 : Int32).toInt64)), (.long (2 : Int64)), (.long (1 : Int64))]))
  refine Gd.go (fun _ w_k => XS.lmul X0.here hx rfl (hb hby d9_26) rfl w_k) ?_
  show Gd _ _ _ _ (s₁.setTop (mkF m 27 #[.val (.int (0 : Int32))] [(.long ((2 : Int64) * ((0 : Int32).toInt64))), (.long (1 : Int64))]))
  obtain ⟨T1, X1, e1, st1⟩ := own_callSP X0 hx hZ (y := (⟨"java/lang/Math", "max", "(JJ)J"⟩ : MethodName)) hown (hw _ (List.mem_of_getElem? (i := 57) rfl)) (hw _ (List.mem_of_getElem? (i := 58) rfl)) (hw _ (List.mem_of_getElem? (i := 35) rfl)) (hw _ (List.mem_of_getElem? (i := 59) rfl)) (by decide) (W := 0) (own_c10 l Z a0 hw (1 : Int64) ((2 : Int64) * ((0 : Int32).toInt64)) h0) rfl rfl e0 (by decide) (by decide) (g := (mkF m 27 #[.val (.int (0 : Int32))] [(.long ((2 : Int64) * ((0 : Int32).toInt64))), (.long (1 : Int64))])) rfl (by rw [hml]; rfl) (argsL := [(.long (1 : Int64)), (.long ((2 : Int64) * ((0 : Int32).toInt64)))]) (rest := []) (lenOf own_pd0 rfl) rfl (Nat.le_of_eq rfl) (hb hby d9_27) rfl
  refine Gd.go (fun _ w_k => st1 _ w_k) ?_
  show Gd _ _ _ _ (T1.setTop (mkF m 30 #[.val (.int (0 : Int32))] [(.long (if (1 : Int64) < ((2 : Int64) * ((0 : Int32).toInt64)) then ((2 : Int64) * ((0 : Int32).toInt64)) else (1 : Int64)))]))
  refine Gd.go (fun _ w_k => X1.ldc2Long hx hown (mvT hZ (hw _ (List.mem_of_getElem? (i := 60) rfl))) (g := (mkF m 30 #[.val (.int (0 : Int32))] [(.long (if (1 : Int64) < ((2 : Int64) * ((0 : Int32).toInt64)) then ((2 : Int64) * ((0 : Int32).toInt64)) else (1 : Int64)))])) rfl (hb hby d9_30) _ w_k) ?_
  show Gd _ _ _ _ (T1.setTop (mkF m 33 #[.val (.int (0 : Int32))] [(.long (2147483639 : Int64)), (.long (if (1 : Int64) < ((2 : Int64) * ((0 : Int32).toInt64)) then ((2 : Int64) * ((0 : Int32).toInt64)) else (1 : Int64)))]))
  obtain ⟨T2, X2, e2, st2⟩ := own_callSP X1 hx hZ (y := (⟨"java/lang/Math", "min", "(JJ)J"⟩ : MethodName)) hown (hw _ (List.mem_of_getElem? (i := 61) rfl)) (hw _ (List.mem_of_getElem? (i := 62) rfl)) (hw _ (List.mem_of_getElem? (i := 35) rfl)) (hw _ (List.mem_of_getElem? (i := 63) rfl)) (by decide) (W := 0) (own_c11 l Z a0 hw (if (1 : Int64) < ((2 : Int64) * ((0 : Int32).toInt64)) then ((2 : Int64) * ((0 : Int32).toInt64)) else (1 : Int64)) (2147483639 : Int64) h0) rfl rfl e1 (by decide) (by decide) (g := (mkF m 33 #[.val (.int (0 : Int32))] [(.long (2147483639 : Int64)), (.long (if (1 : Int64) < ((2 : Int64) * ((0 : Int32).toInt64)) then ((2 : Int64) * ((0 : Int32).toInt64)) else (1 : Int64)))])) rfl (by rw [hml]; rfl) (argsL := [(.long (if (1 : Int64) < ((2 : Int64) * ((0 : Int32).toInt64)) then ((2 : Int64) * ((0 : Int32).toInt64)) else (1 : Int64))), (.long (2147483639 : Int64))]) (rest := []) (lenOf own_pd0 rfl) rfl (Nat.le_of_eq rfl) (hb hby d9_33) rfl
  refine Gd.go (fun _ w_k => st2 _ w_k) ?_
  show Gd _ _ _ _ (T2.setTop (mkF m 36 #[.val (.int (0 : Int32))] [(.long (if (2147483639 : Int64) < (if (1 : Int64) < ((2 : Int64) * ((0 : Int32).toInt64)) then ((2 : Int64) * ((0 : Int32).toInt64)) else (1 : Int64)) then (2147483639 : Int64) else (if (1 : Int64) < ((2 : Int64) * ((0 : Int32).toInt64)) then ((2 : Int64) * ((0 : Int32).toInt64)) else (1 : Int64))))]))
  refine Gd.go (fun _ w_k => XS.l2i X2.here hx rfl (hb hby d9_36) rfl w_k) ?_
  show Gd _ _ _ _ (T2.setTop (mkF m 37 #[.val (.int (0 : Int32))] [(.int ((if (2147483639 : Int64) < (if (1 : Int64) < ((2 : Int64) * ((0 : Int32).toInt64)) then ((2 : Int64) * ((0 : Int32).toInt64)) else (1 : Int64)) then (2147483639 : Int64) else (if (1 : Int64) < ((2 : Int64) * ((0 : Int32).toInt64)) then ((2 : Int64) * ((0 : Int32).toInt64)) else (1 : Int64))).toInt32))]))
  refine own_retI X2 hx hret hlk (hb hby d9_37) ?_ (by decide) (by decide)
  exact ⟨by rfl, e2, rfl⟩
set_option maxRecDepth 65536 in
set_option maxHeartbeats 40000000 in
theorem own_c9_1 (l : Launch) (Z : State) (a0 : Array Value) (hw : ∀ d ∈ tables_1, d.before a0 Z = true) (h0 : Heap) :
    Con l Z (⟨"org/eventropy/core/AutomatonLayout", "grown", "(I)I"⟩ : MethodName) prog_19_method_11_code 1 (some .int) [] ({ frames := 1, cells := 0, slots := 0, locals := 17 } : Room) 0 0 #[(.int (1 : Int32))] h0 (fun r h L => r = some (.int (2 : Int32)) ∧ h = h0 ∧ L = []) := by
  refine Con.of own_pn4 ?_
  intro pg ev s_ m bl mt cd s₁ hx hby hml hown hnm hret hlk hZ X0 e0
  rw [ef_9]
  show Gd _ _ _ _ (s₁.setTop (mkF m 0 #[.val (.int (1 : Int32))] []))
  refine Gd.go (fun _ w_k => XS.iloadN X0.here hx rfl (hb hby d9_0) rfl w_k) ?_
  show Gd _ _ _ _ (s₁.setTop (mkF m 1 #[.val (.int (1 : Int32))] [(.int (1 : Int32))]))
  refine Gd.go (fun _ w_k => X0.ldcInt hx hown (mvT hZ (hw _ (List.mem_of_getElem? (i := 55) rfl))) (g := (mkF m 1 #[.val (.int (1 : Int32))] [(.int (1 : Int32))])) rfl (hb hby d9_1) _ w_k) ?_
  show Gd _ _ _ _ (s₁.setTop (mkF m 3 #[.val (.int (1 : Int32))] [(.int (2147483639 : Int32)), (.int (1 : Int32))]))
  refine Gd.go (fun _ w_k => XS.icmpYes X0.here hx rfl (pc0 := 3) (pc' := 20) rfl (hb hby d9_3) rfl (tlt (by decide)).1 (by decide) (by decide) w_k) ?_
  show Gd _ _ _ _ (s₁.setTop (mkF m 20 #[.val (.int (1 : Int32))] []))
  refine Gd.go (fun _ w_k => XS.lconst X0.here hx rfl (hb hby d9_20) w_k) ?_
  show Gd _ _ _ _ (s₁.setTop (mkF m 21 #[.val (.int (1 : Int32))] [(.long (1 : Int64))]))
  refine Gd.go (fun _ w_k => X0.ldc2Long hx hown (mvT hZ (hw _ (List.mem_of_getElem? (i := 56) rfl))) (g := (mkF m 21 #[.val (.int (1 : Int32))] [(.long (1 : Int64))])) rfl (hb hby d9_21) _ w_k) ?_
  show Gd _ _ _ _ (s₁.setTop (mkF m 24 #[.val (.int (1 : Int32))] [(.long (2 : Int64)), (.long (1 : Int64))]))
  refine Gd.go (fun _ w_k => XS.iloadN X0.here hx rfl (hb hby d9_24) rfl w_k) ?_
  show Gd _ _ _ _ (s₁.setTop (mkF m 25 #[.val (.int (1 : Int32))] [(.int (1 : Int32)), (.long (2 : Int64)), (.long (1 : Int64))]))
  refine Gd.go (fun _ w_k => XS.i2l X0.here hx rfl (hb hby d9_25) rfl w_k) ?_
  show Gd _ _ _ _ (s₁.setTop (mkF m 26 #[.val (.int (1 : Int32))] [(.long ((1 : Int32).toInt64)), (.long (2 : Int64)), (.long (1 : Int64))]))
  refine Gd.go (fun _ w_k => XS.lmul X0.here hx rfl (hb hby d9_26) rfl w_k) ?_
  show Gd _ _ _ _ (s₁.setTop (mkF m 27 #[.val (.int (1 : Int32))] [(.long ((2 : Int64) * ((1 : Int32).toInt64))), (.long (1 : Int64))]))
  obtain ⟨T1, X1, e1, st1⟩ := own_callSP X0 hx hZ (y := (⟨"java/lang/Math", "max", "(JJ)J"⟩ : MethodName)) hown (hw _ (List.mem_of_getElem? (i := 57) rfl)) (hw _ (List.mem_of_getElem? (i := 58) rfl)) (hw _ (List.mem_of_getElem? (i := 35) rfl)) (hw _ (List.mem_of_getElem? (i := 59) rfl)) (by decide) (W := 0) (own_c10 l Z a0 hw (1 : Int64) ((2 : Int64) * ((1 : Int32).toInt64)) h0) rfl rfl e0 (by decide) (by decide) (g := (mkF m 27 #[.val (.int (1 : Int32))] [(.long ((2 : Int64) * ((1 : Int32).toInt64))), (.long (1 : Int64))])) rfl (by rw [hml]; rfl) (argsL := [(.long (1 : Int64)), (.long ((2 : Int64) * ((1 : Int32).toInt64)))]) (rest := []) (lenOf own_pd0 rfl) rfl (Nat.le_of_eq rfl) (hb hby d9_27) rfl
  refine Gd.go (fun _ w_k => st1 _ w_k) ?_
  show Gd _ _ _ _ (T1.setTop (mkF m 30 #[.val (.int (1 : Int32))] [(.long (if (1 : Int64) < ((2 : Int64) * ((1 : Int32).toInt64)) then ((2 : Int64) * ((1 : Int32).toInt64)) else (1 : Int64)))]))
  refine Gd.go (fun _ w_k => X1.ldc2Long hx hown (mvT hZ (hw _ (List.mem_of_getElem? (i := 60) rfl))) (g := (mkF m 30 #[.val (.int (1 : Int32))] [(.long (if (1 : Int64) < ((2 : Int64) * ((1 : Int32).toInt64)) then ((2 : Int64) * ((1 : Int32).toInt64)) else (1 : Int64)))])) rfl (hb hby d9_30) _ w_k) ?_
  show Gd _ _ _ _ (T1.setTop (mkF m 33 #[.val (.int (1 : Int32))] [(.long (2147483639 : Int64)), (.long (if (1 : Int64) < ((2 : Int64) * ((1 : Int32).toInt64)) then ((2 : Int64) * ((1 : Int32).toInt64)) else (1 : Int64)))]))
  obtain ⟨T2, X2, e2, st2⟩ := own_callSP X1 hx hZ (y := (⟨"java/lang/Math", "min", "(JJ)J"⟩ : MethodName)) hown (hw _ (List.mem_of_getElem? (i := 61) rfl)) (hw _ (List.mem_of_getElem? (i := 62) rfl)) (hw _ (List.mem_of_getElem? (i := 35) rfl)) (hw _ (List.mem_of_getElem? (i := 63) rfl)) (by decide) (W := 0) (own_c11 l Z a0 hw (if (1 : Int64) < ((2 : Int64) * ((1 : Int32).toInt64)) then ((2 : Int64) * ((1 : Int32).toInt64)) else (1 : Int64)) (2147483639 : Int64) h0) rfl rfl e1 (by decide) (by decide) (g := (mkF m 33 #[.val (.int (1 : Int32))] [(.long (2147483639 : Int64)), (.long (if (1 : Int64) < ((2 : Int64) * ((1 : Int32).toInt64)) then ((2 : Int64) * ((1 : Int32).toInt64)) else (1 : Int64)))])) rfl (by rw [hml]; rfl) (argsL := [(.long (if (1 : Int64) < ((2 : Int64) * ((1 : Int32).toInt64)) then ((2 : Int64) * ((1 : Int32).toInt64)) else (1 : Int64))), (.long (2147483639 : Int64))]) (rest := []) (lenOf own_pd0 rfl) rfl (Nat.le_of_eq rfl) (hb hby d9_33) rfl
  refine Gd.go (fun _ w_k => st2 _ w_k) ?_
  show Gd _ _ _ _ (T2.setTop (mkF m 36 #[.val (.int (1 : Int32))] [(.long (if (2147483639 : Int64) < (if (1 : Int64) < ((2 : Int64) * ((1 : Int32).toInt64)) then ((2 : Int64) * ((1 : Int32).toInt64)) else (1 : Int64)) then (2147483639 : Int64) else (if (1 : Int64) < ((2 : Int64) * ((1 : Int32).toInt64)) then ((2 : Int64) * ((1 : Int32).toInt64)) else (1 : Int64))))]))
  refine Gd.go (fun _ w_k => XS.l2i X2.here hx rfl (hb hby d9_36) rfl w_k) ?_
  show Gd _ _ _ _ (T2.setTop (mkF m 37 #[.val (.int (1 : Int32))] [(.int ((if (2147483639 : Int64) < (if (1 : Int64) < ((2 : Int64) * ((1 : Int32).toInt64)) then ((2 : Int64) * ((1 : Int32).toInt64)) else (1 : Int64)) then (2147483639 : Int64) else (if (1 : Int64) < ((2 : Int64) * ((1 : Int32).toInt64)) then ((2 : Int64) * ((1 : Int32).toInt64)) else (1 : Int64))).toInt32))]))
  refine own_retI X2 hx hret hlk (hb hby d9_37) ?_ (by decide) (by decide)
  exact ⟨by rfl, e2, rfl⟩
theorem own_pn5 : plainFor (⟨"java/util/Arrays", "copyOf", "([II)[I"⟩ : MethodName) = true := by first | exact plainFor_of_name (by first | (simp [plainName, overriddenIn, x]; done) | decide +kernel) | decide +kernel
theorem ef_12 (m : MethodId) (q0 : Addr) (q1 : Int32) : entryFrame m #[(.ref q0), (.int q1)] 3 = mkF m 0 #[.val (.ref q0), .val (.int q1), .unset] [] := by first | (simp [entryFrame, mkF, argsToLocals, Value.category, maxLocals]; done) | rfl
theorem d12_0 : decode jdk_65_method_123_code 0 = .ok (.iload_n 1, 1) := by decide +kernel
theorem d12_1 : decode jdk_65_method_123_code 1 = .ok (.aload_n 0, 1) := by decide +kernel
theorem d12_2 : decode jdk_65_method_123_code 2 = .ok (.arraylength, 1) := by decide +kernel
theorem d12_3 : decode jdk_65_method_123_code 3 = .ok (.if_icmp .ne 11, 3) := by decide +kernel
theorem d12_14 : decode jdk_65_method_123_code 14 = .ok (.iload_n 1, 1) := by decide +kernel
theorem d12_15 : decode jdk_65_method_123_code 15 = .ok (.newarray .int, 2) := by decide +kernel
theorem d12_17 : decode jdk_65_method_123_code 17 = .ok (.astore_n 2, 1) := by decide +kernel
theorem d12_18 : decode jdk_65_method_123_code 18 = .ok (.aload_n 0, 1) := by decide +kernel
theorem d12_19 : decode jdk_65_method_123_code 19 = .ok (.iconst 0, 1) := by decide +kernel
theorem d12_20 : decode jdk_65_method_123_code 20 = .ok (.aload_n 2, 1) := by decide +kernel
theorem d12_21 : decode jdk_65_method_123_code 21 = .ok (.iconst 0, 1) := by decide +kernel
theorem d12_22 : decode jdk_65_method_123_code 22 = .ok (.aload_n 0, 1) := by decide +kernel
theorem d12_23 : decode jdk_65_method_123_code 23 = .ok (.arraylength, 1) := by decide +kernel
theorem d12_24 : decode jdk_65_method_123_code 24 = .ok (.iload_n 1, 1) := by decide +kernel
theorem own_pd1 : parseMethodDescriptor "(II)I" = some ⟨[.int, .int], some .int⟩ := by decide +kernel
theorem d12_25 : decode jdk_65_method_123_code 25 = .ok (.invokestatic 304, 3) := by decide +kernel
theorem d12_28 : decode jdk_65_method_123_code 28 = .ok (.invokestatic 150, 3) := by decide +kernel
theorem d12_31 : decode jdk_65_method_123_code 31 = .ok (.aload_n 2, 1) := by decide +kernel
theorem d12_32 : decode jdk_65_method_123_code 32 = .ok (.areturn, 1) := by decide +kernel
set_option maxRecDepth 65536 in
set_option maxHeartbeats 40000000 in
theorem own_c12 (l : Launch) (Z : State) (a0 : Array Value) (hw : ∀ d ∈ tables_1, d.before a0 Z = true) (a : Addr) (n : Nat) (f : Nat → Int32) (N : Int32) (hN : (n : Int) < N.toInt ∧ N.toInt ≤ 2) (h0 : Heap) (n0 : Nat) (Z0 : n0 ≤ h0.size) (A0 : ArF Z h0 a .int n (fun i => .int (f i))) :
    Con l Z (⟨"java/util/Arrays", "copyOf", "([II)[I"⟩ : MethodName) jdk_65_method_123_code 3 (some (.array .int)) [] ({ frames := 1, cells := 1, slots := 2, locals := 40 } : Room) 1 2 #[(.ref a), (.int N)] h0 (fun r h L => ∃ b, r = some (.ref b) ∧ h0.size ≤ b ∧ Keep h0 h [] ∧ ArF Z h b .int N.toNatClampNeg (fun i => .int (if i < n then f i else 0)) ∧ Fr n0 L) := by
  refine Con.of own_pn5 ?_
  intro pg ev s_ m bl mt cd s₁ hx hby hml hown hnm hret hlk hZ X0 e0
  rw [ef_12]
  show Gd _ _ _ _ (s₁.setTop (mkF m 0 #[.val (.ref a), .val (.int N), .unset] []))
  have hn := A0.n31
  have NN := own_nat (j := N) (by omega)
  have Nn : ¬ N < 0 := by rw [Int32.lt_iff_toInt_lt]; have : (0 : Int32).toInt = 0 := rfl; omega
  have Nc : N.toNatClampNeg ≤ 2 := by omega
  have cn := own_ofN hn
  have cc := own_ofC hn
  have N0 := Fr.nil n0
  have K0 := Keep.refl h0 []
  refine Gd.go (fun _ w_k => XS.iloadN X0.here hx rfl (hb hby d12_0) rfl w_k) ?_
  show Gd _ _ _ _ (s₁.setTop (mkF m 1 #[.val (.ref a), .val (.int N), .unset] [(.int N)]))
  refine Gd.go (fun _ w_k => XS.aloadN X0.here hx rfl (hb hby d12_1) rfl rfl w_k) ?_
  show Gd _ _ _ _ (s₁.setTop (mkF m 2 #[.val (.ref a), .val (.int N), .unset] [(.ref a), (.int N)]))
  refine Gd.go (fun _ w_k => own_len X0 hx hZ e0 A0 (z := (Int32.ofNat n)) rfl (g := (mkF m 2 #[.val (.ref a), .val (.int N), .unset] [(.ref a), (.int N)])) rfl rfl (hb hby d12_2) _ w_k) ?_
  show Gd _ _ _ _ (s₁.setTop (mkF m 3 #[.val (.ref a), .val (.int N), .unset] [(.int (Int32.ofNat n)), (.int N)]))
  refine Gd.go (fun _ w_k => XS.icmpYes X0.here hx rfl (pc0 := 3) (pc' := 14) rfl (hb hby d12_3) rfl (feq (fun q => by have e := congrArg Int32.toInt q; rw [cn] at e; omega)).2 (by decide) (by decide) w_k) ?_
  show Gd _ _ _ _ (s₁.setTop (mkF m 14 #[.val (.ref a), .val (.int N), .unset] []))
  refine Gd.go (fun _ w_k => XS.iloadN X0.here hx rfl (hb hby d12_14) rfl w_k) ?_
  show Gd _ _ _ _ (s₁.setTop (mkF m 15 #[.val (.ref a), .val (.int N), .unset] [(.int N)]))
  obtain ⟨T1, h1, k1, X1, e1, E1, A1, st1⟩ := newP X0 hx hZ (hw _ (List.mem_of_getElem? (i := 16) rfl)) e0 (g := (mkF m 15 #[.val (.ref a), .val (.int N), .unset] [(.int N)])) rfl (hb hby d12_15) rfl Nn (cap := 2) Nc (by decide) (by decide) (by decide)
  obtain ⟨b1, g1⟩ : ∃ z, z = h0.size := ⟨_, rfl⟩
  rw [← g1] at A1 st1
  have ne_a_b1 : a ≠ b1 := fun q => Nat.lt_irrefl _ (Nat.lt_of_lt_of_le A0.lt (Nat.le_of_eq (q.trans g1).symm))
  have n0_b1 : n0 ≤ b1 := Nat.le_trans Z0 (Nat.le_of_eq g1.symm)
  have kn_b1 : h0.size ≤ b1 := Nat.le_trans K0.1 (Nat.le_of_eq g1.symm)
  have xF2 := A0.ext E1
  have xZs3 := Nat.le_trans Z0 E1.1
  have xK4 := Keep.ext K0 E1
  have xF5 : ArF Z h1 b1 .int (N).toNatClampNeg (fun _ => (.int (0 : Int32))) := own_new (h := h0) A1 Nn
  refine Gd.go (fun _ w_k => st1 _ w_k) ?_
  show Gd _ _ _ _ (T1.setTop (mkF m 17 #[.val (.ref a), .val (.int N), .unset] [(.ref b1)]))
  refine Gd.go (fun _ w_k => XS.astoreN X1.here hx rfl (hb hby d12_17) rfl rfl (l' := #[.val (.ref a), .val (.int N), .val (.ref b1)]) rfl w_k) ?_
  show Gd _ _ _ _ (T1.setTop (mkF m 18 #[.val (.ref a), .val (.int N), .val (.ref b1)] []))
  refine Gd.go (fun _ w_k => XS.aloadN X1.here hx rfl (hb hby d12_18) rfl rfl w_k) ?_
  show Gd _ _ _ _ (T1.setTop (mkF m 19 #[.val (.ref a), .val (.int N), .val (.ref b1)] [(.ref a)]))
  refine Gd.go (fun _ w_k => XS.iconst X1.here hx rfl (hb hby d12_19) w_k) ?_
  show Gd _ _ _ _ (T1.setTop (mkF m 20 #[.val (.ref a), .val (.int N), .val (.ref b1)] [(.int (0 : Int32)), (.ref a)]))
  refine Gd.go (fun _ w_k => XS.aloadN X1.here hx rfl (hb hby d12_20) rfl rfl w_k) ?_
  show Gd _ _ _ _ (T1.setTop (mkF m 21 #[.val (.ref a), .val (.int N), .val (.ref b1)] [(.ref b1), (.int (0 : Int32)), (.ref a)]))
  refine Gd.go (fun _ w_k => XS.iconst X1.here hx rfl (hb hby d12_21) w_k) ?_
  show Gd _ _ _ _ (T1.setTop (mkF m 22 #[.val (.ref a), .val (.int N), .val (.ref b1)] [(.int (0 : Int32)), (.ref b1), (.int (0 : Int32)), (.ref a)]))
  refine Gd.go (fun _ w_k => XS.aloadN X1.here hx rfl (hb hby d12_22) rfl rfl w_k) ?_
  show Gd _ _ _ _ (T1.setTop (mkF m 23 #[.val (.ref a), .val (.int N), .val (.ref b1)] [(.ref a), (.int (0 : Int32)), (.ref b1), (.int (0 : Int32)), (.ref a)]))
  refine Gd.go (fun _ w_k => own_len X1 hx hZ e1 xF2 (z := (Int32.ofNat n)) rfl (g := (mkF m 23 #[.val (.ref a), .val (.int N), .val (.ref b1)] [(.ref a), (.int (0 : Int32)), (.ref b1), (.int (0 : Int32)), (.ref a)])) rfl rfl (hb hby d12_23) _ w_k) ?_
  show Gd _ _ _ _ (T1.setTop (mkF m 24 #[.val (.ref a), .val (.int N), .val (.ref b1)] [(.int (Int32.ofNat n)), (.int (0 : Int32)), (.ref b1), (.int (0 : Int32)), (.ref a)]))
  refine Gd.go (fun _ w_k => XS.iloadN X1.here hx rfl (hb hby d12_24) rfl w_k) ?_
  show Gd _ _ _ _ (T1.setTop (mkF m 25 #[.val (.ref a), .val (.int N), .val (.ref b1)] [(.int N), (.int (Int32.ofNat n)), (.int (0 : Int32)), (.ref b1), (.int (0 : Int32)), (.ref a)]))
  obtain ⟨T6, X6, e6, st6⟩ := own_callSP X1 hx hZ (y := (⟨"java/lang/Math", "min", "(II)I"⟩ : MethodName)) hown (hw _ (List.mem_of_getElem? (i := 68) rfl)) (hw _ (List.mem_of_getElem? (i := 34) rfl)) (hw _ (List.mem_of_getElem? (i := 35) rfl)) (hw _ (List.mem_of_getElem? (i := 36) rfl)) (by decide) (W := 4) (own_c5 l Z a0 hw (Int32.ofNat n) N h1) rfl rfl e1 (by decide) (by decide) (g := (mkF m 25 #[.val (.ref a), .val (.int N), .val (.ref b1)] [(.int N), (.int (Int32.ofNat n)), (.int (0 : Int32)), (.ref b1), (.int (0 : Int32)), (.ref a)])) rfl (by rw [hml]; rfl) (argsL := [(.int (Int32.ofNat n)), (.int N)]) (rest := [(.int (0 : Int32)), (.ref b1), (.int (0 : Int32)), (.ref a)]) (lenOf own_pd1 rfl) rfl (Nat.le_of_eq rfl) (hb hby d12_25) rfl
  refine Gd.go (fun _ w_k => st6 _ w_k) ?_
  show Gd _ _ _ _ (T6.setTop (mkF m 28 #[.val (.ref a), .val (.int N), .val (.ref b1)] [(.int (if N < Int32.ofNat n then N else Int32.ofNat n)), (.int (0 : Int32)), (.ref b1), (.int (0 : Int32)), (.ref a)]))
  rw [if_neg (show ¬ N < Int32.ofNat n by rw [Int32.lt_iff_toInt_lt, cn]; omega)]
  show Gd _ _ _ _ (T6.setTop (mkF m 28 #[.val (.ref a), .val (.int N), .val (.ref b1)] [(.int (Int32.ofNat n)), (.int (0 : Int32)), (.ref b1), (.int (0 : Int32)), (.ref a)]))
  obtain ⟨T7, h7, L7, X7, e7, Nc7, Kc7, Ac7, st7⟩ := own_cp X6 hx hZ hown (hw _ (List.mem_of_getElem? (i := 69) rfl)) (hw _ (List.mem_of_getElem? (i := 72) rfl)) (hw _ (List.mem_of_getElem? (i := 70) rfl)) (hw _ (List.mem_of_getElem? (i := 71) rfl)) e6 (ty := .int) rfl xF2 xF5 own_fitI (fun _ _ => rfl) (sp := (0 : Int32)) (dp := (0 : Int32)) (nn := (Int32.ofNat n)) (by decide) (by decide) (by rw [cn]; omega) (by rw [cn]; show 0 + (n : Int) ≤ n; omega) (by rw [cn]; show 0 + (n : Int) ≤ (N.toNatClampNeg : Int); omega) N0 n0_b1 (g := (mkF m 28 #[.val (.ref a), .val (.int N), .val (.ref b1)] [(.int (Int32.ofNat n)), (.int (0 : Int32)), (.ref b1), (.int (0 : Int32)), (.ref a)])) rfl (by rw [hml]; rfl) rfl (hb hby d12_28) (by decide) (W := 0) (Nat.le_of_eq rfl) (by decide)
  refine Gd.go (fun _ w_k => st7 _ w_k) ?_
  have xF8 := xF2.keep Kc7 (ninS ne_a_b1 nin0)
  have xZs9 := Nat.le_trans xZs3 Kc7.1
  have xK10 := Keep.trans xK4 Kc7 (allS (P := fun z => z ∈ ([] : List Addr) ∨ h0.size ≤ z) (Or.inr kn_b1) all0)
  show Gd _ _ _ _ (T7.setTop (mkF m 31 #[.val (.ref a), .val (.int N), .val (.ref b1)] []))
  refine Gd.go (fun _ w_k => XS.aloadN X7.here hx rfl (hb hby d12_31) rfl rfl w_k) ?_
  show Gd _ _ _ _ (T7.setTop (mkF m 32 #[.val (.ref a), .val (.int N), .val (.ref b1)] [(.ref b1)]))
  refine own_retA X7 hx hret hlk rfl (hb hby d12_32) ?_ (by decide) (by decide)
  rw [e7]
  refine ⟨b1, rfl, kn_b1, xK10, ?_, Nc7⟩
  refine ArF.congr Ac7 fun i hi => ?_
  rw [cc]
  by_cases q : i < n
  · rw [if_pos ⟨Nat.zero_le _, by show i < 0 + n; omega⟩]; simp only [q, if_true]; show Value.int (f (0 + (i - 0))) = _; simp
  · rw [if_neg (by intro ⟨_, u⟩; have : i < 0 + n := u; omega)]; simp only [q, if_false]
theorem own_pn6 : plainFor (⟨"java/util/Arrays", "copyOf", "([DI)[D"⟩ : MethodName) = true := by first | exact plainFor_of_name (by first | (simp [plainName, overriddenIn, x]; done) | decide +kernel) | decide +kernel
theorem ef_13 (m : MethodId) (q0 : Addr) (q1 : Int32) : entryFrame m #[(.ref q0), (.int q1)] 3 = mkF m 0 #[.val (.ref q0), .val (.int q1), .unset] [] := by first | (simp [entryFrame, mkF, argsToLocals, Value.category, maxLocals]; done) | rfl
theorem d13_0 : decode jdk_65_method_127_code 0 = .ok (.iload_n 1, 1) := by decide +kernel
theorem d13_1 : decode jdk_65_method_127_code 1 = .ok (.aload_n 0, 1) := by decide +kernel
theorem d13_2 : decode jdk_65_method_127_code 2 = .ok (.arraylength, 1) := by decide +kernel
theorem d13_3 : decode jdk_65_method_127_code 3 = .ok (.if_icmp .ne 11, 3) := by decide +kernel
theorem d13_14 : decode jdk_65_method_127_code 14 = .ok (.iload_n 1, 1) := by decide +kernel
theorem d13_15 : decode jdk_65_method_127_code 15 = .ok (.newarray .double, 2) := by decide +kernel
theorem d13_17 : decode jdk_65_method_127_code 17 = .ok (.astore_n 2, 1) := by decide +kernel
theorem d13_18 : decode jdk_65_method_127_code 18 = .ok (.aload_n 0, 1) := by decide +kernel
theorem d13_19 : decode jdk_65_method_127_code 19 = .ok (.iconst 0, 1) := by decide +kernel
theorem d13_20 : decode jdk_65_method_127_code 20 = .ok (.aload_n 2, 1) := by decide +kernel
theorem d13_21 : decode jdk_65_method_127_code 21 = .ok (.iconst 0, 1) := by decide +kernel
theorem d13_22 : decode jdk_65_method_127_code 22 = .ok (.aload_n 0, 1) := by decide +kernel
theorem d13_23 : decode jdk_65_method_127_code 23 = .ok (.arraylength, 1) := by decide +kernel
theorem d13_24 : decode jdk_65_method_127_code 24 = .ok (.iload_n 1, 1) := by decide +kernel
theorem d13_25 : decode jdk_65_method_127_code 25 = .ok (.invokestatic 304, 3) := by decide +kernel
theorem d13_28 : decode jdk_65_method_127_code 28 = .ok (.invokestatic 150, 3) := by decide +kernel
theorem d13_31 : decode jdk_65_method_127_code 31 = .ok (.aload_n 2, 1) := by decide +kernel
theorem d13_32 : decode jdk_65_method_127_code 32 = .ok (.areturn, 1) := by decide +kernel
set_option maxRecDepth 65536 in
set_option maxHeartbeats 40000000 in
theorem own_c13 (l : Launch) (Z : State) (a0 : Array Value) (hw : ∀ d ∈ tables_1, d.before a0 Z = true) (a : Addr) (n : Nat) (f : Nat → UInt64) (N : Int32) (hN : (n : Int) < N.toInt ∧ N.toInt ≤ 2) (h0 : Heap) (n0 : Nat) (Z0 : n0 ≤ h0.size) (A0 : ArF Z h0 a .double n (fun i => .double (f i))) :
    Con l Z (⟨"java/util/Arrays", "copyOf", "([DI)[D"⟩ : MethodName) jdk_65_method_127_code 3 (some (.array .double)) [] ({ frames := 1, cells := 1, slots := 2, locals := 40 } : Room) 1 2 #[(.ref a), (.int N)] h0 (fun r h L => ∃ b, r = some (.ref b) ∧ h0.size ≤ b ∧ Keep h0 h [] ∧ ArF Z h b .double N.toNatClampNeg (fun i => .double (if i < n then f i else 0)) ∧ Fr n0 L) := by
  refine Con.of own_pn6 ?_
  intro pg ev s_ m bl mt cd s₁ hx hby hml hown hnm hret hlk hZ X0 e0
  rw [ef_13]
  show Gd _ _ _ _ (s₁.setTop (mkF m 0 #[.val (.ref a), .val (.int N), .unset] []))
  have hn := A0.n31
  have NN := own_nat (j := N) (by omega)
  have Nn : ¬ N < 0 := by rw [Int32.lt_iff_toInt_lt]; have : (0 : Int32).toInt = 0 := rfl; omega
  have Nc : N.toNatClampNeg ≤ 2 := by omega
  have cn := own_ofN hn
  have cc := own_ofC hn
  have N0 := Fr.nil n0
  have K0 := Keep.refl h0 []
  refine Gd.go (fun _ w_k => XS.iloadN X0.here hx rfl (hb hby d13_0) rfl w_k) ?_
  show Gd _ _ _ _ (s₁.setTop (mkF m 1 #[.val (.ref a), .val (.int N), .unset] [(.int N)]))
  refine Gd.go (fun _ w_k => XS.aloadN X0.here hx rfl (hb hby d13_1) rfl rfl w_k) ?_
  show Gd _ _ _ _ (s₁.setTop (mkF m 2 #[.val (.ref a), .val (.int N), .unset] [(.ref a), (.int N)]))
  refine Gd.go (fun _ w_k => own_len X0 hx hZ e0 A0 (z := (Int32.ofNat n)) rfl (g := (mkF m 2 #[.val (.ref a), .val (.int N), .unset] [(.ref a), (.int N)])) rfl rfl (hb hby d13_2) _ w_k) ?_
  show Gd _ _ _ _ (s₁.setTop (mkF m 3 #[.val (.ref a), .val (.int N), .unset] [(.int (Int32.ofNat n)), (.int N)]))
  refine Gd.go (fun _ w_k => XS.icmpYes X0.here hx rfl (pc0 := 3) (pc' := 14) rfl (hb hby d13_3) rfl (feq (fun q => by have e := congrArg Int32.toInt q; rw [cn] at e; omega)).2 (by decide) (by decide) w_k) ?_
  show Gd _ _ _ _ (s₁.setTop (mkF m 14 #[.val (.ref a), .val (.int N), .unset] []))
  refine Gd.go (fun _ w_k => XS.iloadN X0.here hx rfl (hb hby d13_14) rfl w_k) ?_
  show Gd _ _ _ _ (s₁.setTop (mkF m 15 #[.val (.ref a), .val (.int N), .unset] [(.int N)]))
  obtain ⟨T1, h1, k1, X1, e1, E1, A1, st1⟩ := newP X0 hx hZ (hw _ (List.mem_of_getElem? (i := 19) rfl)) e0 (g := (mkF m 15 #[.val (.ref a), .val (.int N), .unset] [(.int N)])) rfl (hb hby d13_15) rfl Nn (cap := 2) Nc (by decide) (by decide) (by decide)
  obtain ⟨b1, g1⟩ : ∃ z, z = h0.size := ⟨_, rfl⟩
  rw [← g1] at A1 st1
  have ne_a_b1 : a ≠ b1 := fun q => Nat.lt_irrefl _ (Nat.lt_of_lt_of_le A0.lt (Nat.le_of_eq (q.trans g1).symm))
  have n0_b1 : n0 ≤ b1 := Nat.le_trans Z0 (Nat.le_of_eq g1.symm)
  have kn_b1 : h0.size ≤ b1 := Nat.le_trans K0.1 (Nat.le_of_eq g1.symm)
  have xF2 := A0.ext E1
  have xZs3 := Nat.le_trans Z0 E1.1
  have xK4 := Keep.ext K0 E1
  have xF5 : ArF Z h1 b1 .double (N).toNatClampNeg (fun _ => (.double 0)) := own_new (h := h0) A1 Nn
  refine Gd.go (fun _ w_k => st1 _ w_k) ?_
  show Gd _ _ _ _ (T1.setTop (mkF m 17 #[.val (.ref a), .val (.int N), .unset] [(.ref b1)]))
  refine Gd.go (fun _ w_k => XS.astoreN X1.here hx rfl (hb hby d13_17) rfl rfl (l' := #[.val (.ref a), .val (.int N), .val (.ref b1)]) rfl w_k) ?_
  show Gd _ _ _ _ (T1.setTop (mkF m 18 #[.val (.ref a), .val (.int N), .val (.ref b1)] []))
  refine Gd.go (fun _ w_k => XS.aloadN X1.here hx rfl (hb hby d13_18) rfl rfl w_k) ?_
  show Gd _ _ _ _ (T1.setTop (mkF m 19 #[.val (.ref a), .val (.int N), .val (.ref b1)] [(.ref a)]))
  refine Gd.go (fun _ w_k => XS.iconst X1.here hx rfl (hb hby d13_19) w_k) ?_
  show Gd _ _ _ _ (T1.setTop (mkF m 20 #[.val (.ref a), .val (.int N), .val (.ref b1)] [(.int (0 : Int32)), (.ref a)]))
  refine Gd.go (fun _ w_k => XS.aloadN X1.here hx rfl (hb hby d13_20) rfl rfl w_k) ?_
  show Gd _ _ _ _ (T1.setTop (mkF m 21 #[.val (.ref a), .val (.int N), .val (.ref b1)] [(.ref b1), (.int (0 : Int32)), (.ref a)]))
  refine Gd.go (fun _ w_k => XS.iconst X1.here hx rfl (hb hby d13_21) w_k) ?_
  show Gd _ _ _ _ (T1.setTop (mkF m 22 #[.val (.ref a), .val (.int N), .val (.ref b1)] [(.int (0 : Int32)), (.ref b1), (.int (0 : Int32)), (.ref a)]))
  refine Gd.go (fun _ w_k => XS.aloadN X1.here hx rfl (hb hby d13_22) rfl rfl w_k) ?_
  show Gd _ _ _ _ (T1.setTop (mkF m 23 #[.val (.ref a), .val (.int N), .val (.ref b1)] [(.ref a), (.int (0 : Int32)), (.ref b1), (.int (0 : Int32)), (.ref a)]))
  refine Gd.go (fun _ w_k => own_len X1 hx hZ e1 xF2 (z := (Int32.ofNat n)) rfl (g := (mkF m 23 #[.val (.ref a), .val (.int N), .val (.ref b1)] [(.ref a), (.int (0 : Int32)), (.ref b1), (.int (0 : Int32)), (.ref a)])) rfl rfl (hb hby d13_23) _ w_k) ?_
  show Gd _ _ _ _ (T1.setTop (mkF m 24 #[.val (.ref a), .val (.int N), .val (.ref b1)] [(.int (Int32.ofNat n)), (.int (0 : Int32)), (.ref b1), (.int (0 : Int32)), (.ref a)]))
  refine Gd.go (fun _ w_k => XS.iloadN X1.here hx rfl (hb hby d13_24) rfl w_k) ?_
  show Gd _ _ _ _ (T1.setTop (mkF m 25 #[.val (.ref a), .val (.int N), .val (.ref b1)] [(.int N), (.int (Int32.ofNat n)), (.int (0 : Int32)), (.ref b1), (.int (0 : Int32)), (.ref a)]))
  obtain ⟨T6, X6, e6, st6⟩ := own_callSP X1 hx hZ (y := (⟨"java/lang/Math", "min", "(II)I"⟩ : MethodName)) hown (hw _ (List.mem_of_getElem? (i := 68) rfl)) (hw _ (List.mem_of_getElem? (i := 34) rfl)) (hw _ (List.mem_of_getElem? (i := 35) rfl)) (hw _ (List.mem_of_getElem? (i := 36) rfl)) (by decide) (W := 4) (own_c5 l Z a0 hw (Int32.ofNat n) N h1) rfl rfl e1 (by decide) (by decide) (g := (mkF m 25 #[.val (.ref a), .val (.int N), .val (.ref b1)] [(.int N), (.int (Int32.ofNat n)), (.int (0 : Int32)), (.ref b1), (.int (0 : Int32)), (.ref a)])) rfl (by rw [hml]; rfl) (argsL := [(.int (Int32.ofNat n)), (.int N)]) (rest := [(.int (0 : Int32)), (.ref b1), (.int (0 : Int32)), (.ref a)]) (lenOf own_pd1 rfl) rfl (Nat.le_of_eq rfl) (hb hby d13_25) rfl
  refine Gd.go (fun _ w_k => st6 _ w_k) ?_
  show Gd _ _ _ _ (T6.setTop (mkF m 28 #[.val (.ref a), .val (.int N), .val (.ref b1)] [(.int (if N < Int32.ofNat n then N else Int32.ofNat n)), (.int (0 : Int32)), (.ref b1), (.int (0 : Int32)), (.ref a)]))
  rw [if_neg (show ¬ N < Int32.ofNat n by rw [Int32.lt_iff_toInt_lt, cn]; omega)]
  show Gd _ _ _ _ (T6.setTop (mkF m 28 #[.val (.ref a), .val (.int N), .val (.ref b1)] [(.int (Int32.ofNat n)), (.int (0 : Int32)), (.ref b1), (.int (0 : Int32)), (.ref a)]))
  obtain ⟨T7, h7, L7, X7, e7, Nc7, Kc7, Ac7, st7⟩ := own_cp X6 hx hZ hown (hw _ (List.mem_of_getElem? (i := 69) rfl)) (hw _ (List.mem_of_getElem? (i := 72) rfl)) (hw _ (List.mem_of_getElem? (i := 70) rfl)) (hw _ (List.mem_of_getElem? (i := 71) rfl)) e6 (ty := .double) rfl xF2 xF5 own_fitD (fun _ _ => rfl) (sp := (0 : Int32)) (dp := (0 : Int32)) (nn := (Int32.ofNat n)) (by decide) (by decide) (by rw [cn]; omega) (by rw [cn]; show 0 + (n : Int) ≤ n; omega) (by rw [cn]; show 0 + (n : Int) ≤ (N.toNatClampNeg : Int); omega) N0 n0_b1 (g := (mkF m 28 #[.val (.ref a), .val (.int N), .val (.ref b1)] [(.int (Int32.ofNat n)), (.int (0 : Int32)), (.ref b1), (.int (0 : Int32)), (.ref a)])) rfl (by rw [hml]; rfl) rfl (hb hby d13_28) (by decide) (W := 0) (Nat.le_of_eq rfl) (by decide)
  refine Gd.go (fun _ w_k => st7 _ w_k) ?_
  have xF8 := xF2.keep Kc7 (ninS ne_a_b1 nin0)
  have xZs9 := Nat.le_trans xZs3 Kc7.1
  have xK10 := Keep.trans xK4 Kc7 (allS (P := fun z => z ∈ ([] : List Addr) ∨ h0.size ≤ z) (Or.inr kn_b1) all0)
  show Gd _ _ _ _ (T7.setTop (mkF m 31 #[.val (.ref a), .val (.int N), .val (.ref b1)] []))
  refine Gd.go (fun _ w_k => XS.aloadN X7.here hx rfl (hb hby d13_31) rfl rfl w_k) ?_
  show Gd _ _ _ _ (T7.setTop (mkF m 32 #[.val (.ref a), .val (.int N), .val (.ref b1)] [(.ref b1)]))
  refine own_retA X7 hx hret hlk rfl (hb hby d13_32) ?_ (by decide) (by decide)
  rw [e7]
  refine ⟨b1, rfl, kn_b1, xK10, ?_, Nc7⟩
  refine ArF.congr Ac7 fun i hi => ?_
  rw [cc]
  by_cases q : i < n
  · rw [if_pos ⟨Nat.zero_le _, by show i < 0 + n; omega⟩]; simp only [q, if_true]; show Value.double (f (0 + (i - 0))) = _; simp
  · rw [if_neg (by intro ⟨_, u⟩; have : i < 0 + n := u; omega)]; simp only [q, if_false]
theorem own_pn7 : plainFor (⟨"org/eventropy/core/SmallProbabilities$Keyed", "<init>", "()V"⟩ : MethodName) = true := by first | exact plainFor_of_name (by first | (simp [plainName, overriddenIn, x]; done) | decide +kernel) | decide +kernel
theorem ef_3 (m : MethodId) (q0 : Addr) : entryFrame m #[(.ref q0)] 1 = mkF m 0 #[.val (.ref q0)] [] := by first | (simp [entryFrame, mkF, argsToLocals, Value.category, maxLocals]; done) | rfl
theorem d3_0 : decode prog_49_method_1_code 0 = .ok (.aload_n 0, 1) := by decide +kernel
theorem d3_1 : decode prog_49_method_1_code 1 = .ok (.invokespecial 1, 3) := by decide +kernel
theorem d3_4 : decode prog_49_method_1_code 4 = .ok (.aload_n 0, 1) := by decide +kernel
theorem d3_5 : decode prog_49_method_1_code 5 = .ok (.iconst 0, 1) := by decide +kernel
theorem d3_6 : decode prog_49_method_1_code 6 = .ok (.newarray .int, 2) := by decide +kernel
theorem d3_8 : decode prog_49_method_1_code 8 = .ok (.putfield 7, 3) := by decide +kernel
theorem d3_11 : decode prog_49_method_1_code 11 = .ok (.aload_n 0, 1) := by decide +kernel
theorem d3_12 : decode prog_49_method_1_code 12 = .ok (.iconst 0, 1) := by decide +kernel
theorem d3_13 : decode prog_49_method_1_code 13 = .ok (.newarray .double, 2) := by decide +kernel
theorem d3_15 : decode prog_49_method_1_code 15 = .ok (.putfield 13, 3) := by decide +kernel
theorem d3_18 : decode prog_49_method_1_code 18 = .ok (.return_, 1) := by decide +kernel
set_option maxRecDepth 65536 in
set_option maxHeartbeats 40000000 in
theorem own_c3 (l : Launch) (Z : State) (a0 : Array Value) (hw : ∀ d ∈ tables_1, d.before a0 Z = true) (b : Addr) (h0 : Heap) (n0 : Nat) (Z0 : n0 ≤ h0.size) (gb : n0 ≤ b) (E0 : Exa Z h0 b "org/eventropy/core/SmallProbabilities$Keyed") (F1 : Fld Z h0 b "org/eventropy/core/SmallProbabilities$Keyed" "keys" "[I" .null) (F2 : Fld Z h0 b "org/eventropy/core/SmallProbabilities$Keyed" "bits" "[D" .null) (F3 : Fld Z h0 b "org/eventropy/core/SmallProbabilities$Keyed" "size" "I" (.int (0 : Int32))) :
    Con l Z (⟨"org/eventropy/core/SmallProbabilities$Keyed", "<init>", "()V"⟩ : MethodName) prog_49_method_1_code 1 none [] ({ frames := 1, cells := 2, slots := 0, locals := 12 } : Room) 2 0 #[(.ref b)] h0 (fun r h L => r = none ∧ Keep h0 h [b] ∧ own_K Z h b n0 0 0 (fun _ => 0) ∧ n0 ≤ h.size ∧ Fr n0 L) := by
  refine Con.of own_pn7 ?_
  intro pg ev s_ m bl mt cd s₁ hx hby hml hown hnm hret hlk hZ X0 e0
  rw [ef_3]
  show Gd _ _ _ _ (s₁.setTop (mkF m 0 #[.val (.ref b)] []))
  have N0 := Fr.nil n0
  have K0 := Keep.refl h0 [b]
  refine Gd.go (fun _ w_k => XS.aloadN X0.here hx rfl (hb hby d3_0) rfl rfl w_k) ?_
  show Gd _ _ _ _ (s₁.setTop (mkF m 1 #[.val (.ref b)] [(.ref b)]))
  obtain ⟨T1, X1, e1, st1⟩ := initO X0 hx hZ hown (hw _ (List.mem_of_getElem? (i := 15) rfl)) (hw _ (List.mem_of_getElem? (i := 7) rfl)) (hw _ (List.mem_of_getElem? (i := 8) rfl)) e0 (g := (mkF m 1 #[.val (.ref b)] [(.ref b)])) rfl (by rw [hml]; rfl) rfl (hb hby d3_1) (by decide) (W := 0) (Nat.le_of_eq rfl) (by decide)
  refine Gd.go (fun _ w_k => st1 _ w_k) ?_
  show Gd _ _ _ _ (T1.setTop (mkF m 4 #[.val (.ref b)] []))
  refine Gd.go (fun _ w_k => XS.aloadN X1.here hx rfl (hb hby d3_4) rfl rfl w_k) ?_
  show Gd _ _ _ _ (T1.setTop (mkF m 5 #[.val (.ref b)] [(.ref b)]))
  refine Gd.go (fun _ w_k => XS.iconst X1.here hx rfl (hb hby d3_5) w_k) ?_
  show Gd _ _ _ _ (T1.setTop (mkF m 6 #[.val (.ref b)] [(.int (0 : Int32)), (.ref b)]))
  obtain ⟨T2, h2, k2, X2, e2, E2, A2, st2⟩ := newP X1 hx hZ (hw _ (List.mem_of_getElem? (i := 16) rfl)) e1 (g := (mkF m 6 #[.val (.ref b)] [(.int (0 : Int32)), (.ref b)])) rfl (hb hby d3_6) rfl (by decide) (cap := 0) (by decide) (by decide) (by decide) (by decide)
  obtain ⟨b2, g2⟩ : ∃ z, z = h0.size := ⟨_, rfl⟩
  rw [← g2] at A2 st2
  have ne_b_b2 : b ≠ b2 := fun q => Nat.lt_irrefl _ (Nat.lt_of_lt_of_le E0.lt (Nat.le_of_eq (q.trans g2).symm))
  have n0_b2 : n0 ≤ b2 := Nat.le_trans Z0 (Nat.le_of_eq g2.symm)
  have kn_b2 : h0.size ≤ b2 := Nat.le_trans K0.1 (Nat.le_of_eq g2.symm)
  have xF3 := E0.ext E2
  have xF4 := F1.ext E2
  have xF5 := F2.ext E2
  have xF6 := F3.ext E2
  have xZs7 := Nat.le_trans Z0 E2.1
  have xK8 := Keep.ext K0 E2
  have xF9 : ArF Z h2 b2 .int 0 (fun _ => (.int (0 : Int32))) := own_new (h := h0) A2 (by decide)
  refine Gd.go (fun _ w_k => st2 _ w_k) ?_
  show Gd _ _ _ _ (T2.setTop (mkF m 8 #[.val (.ref b)] [(.ref b2), (.ref b)]))
  obtain ⟨T10, h10, X10, e10, W10, st10⟩ := putF X2 hx hZ hown (host := "") (Or.inl (hw _ (List.mem_of_getElem? (i := 17) rfl))) Via.refl e2 xF4 xF3 (Or.inl (hw _ (List.mem_of_getElem? (i := 18) rfl))) (hw _ (List.mem_of_getElem? (i := 10) rfl)) (ty := (.array .int)) (by decide) rfl rfl (g := (mkF m 8 #[.val (.ref b)] [(.ref b2), (.ref b)])) rfl rfl (hb hby d3_8)
  refine Gd.go (fun _ w_k => st10 _ w_k) ?_
  have xF11 := xF3.wr W10
  have xF12 := xF4.same W10
  have xF13 := xF5.other W10 (Or.inr (slot_ne (Or.inl (hw _ (List.mem_of_getElem? (i := 21) rfl))) (Or.inl (hw _ (List.mem_of_getElem? (i := 18) rfl))) (by decide) (t := (.array .double)) (t' := (.array .int)) (by decide) (by decide)))
  have xF14 := xF6.other W10 (Or.inr (slot_ne (Or.inl (hw _ (List.mem_of_getElem? (i := 32) rfl))) (Or.inl (hw _ (List.mem_of_getElem? (i := 18) rfl))) (by decide) (t := .int) (t' := (.array .int)) (by decide) (by decide)))
  have xF15 := xF9.other W10 (Ne.symm ne_b_b2)
  have xN16 := Fr.snoc X10 N0 gb
  have xZs17 := Nat.le_trans xZs7 (Keep.of_wr W10).1
  have xK18 := Keep.wr xK8 W10 (Or.inl (List.mem_singleton.mpr rfl))
  show Gd _ _ _ _ (T10.setTop (mkF m 11 #[.val (.ref b)] []))
  refine Gd.go (fun _ w_k => XS.aloadN X10.here hx rfl (hb hby d3_11) rfl rfl w_k) ?_
  show Gd _ _ _ _ (T10.setTop (mkF m 12 #[.val (.ref b)] [(.ref b)]))
  refine Gd.go (fun _ w_k => XS.iconst X10.here hx rfl (hb hby d3_12) w_k) ?_
  show Gd _ _ _ _ (T10.setTop (mkF m 13 #[.val (.ref b)] [(.int (0 : Int32)), (.ref b)]))
  obtain ⟨T19, h19, k19, X19, e19, E19, A19, st19⟩ := newP X10 hx hZ (hw _ (List.mem_of_getElem? (i := 19) rfl)) e10 (g := (mkF m 13 #[.val (.ref b)] [(.int (0 : Int32)), (.ref b)])) rfl (hb hby d3_13) rfl (by decide) (cap := 0) (by decide) (by decide) (by decide) (by decide)
  obtain ⟨b19, g19⟩ : ∃ z, z = h10.size := ⟨_, rfl⟩
  rw [← g19] at A19 st19
  have ne_b_b19 : b ≠ b19 := fun q => Nat.lt_irrefl _ (Nat.lt_of_lt_of_le xF11.lt (Nat.le_of_eq (q.trans g19).symm))
  have ne_b2_b19 : b2 ≠ b19 := fun q => Nat.lt_irrefl _ (Nat.lt_of_lt_of_le xF15.lt (Nat.le_of_eq (q.trans g19).symm))
  have n0_b19 : n0 ≤ b19 := Nat.le_trans xZs17 (Nat.le_of_eq g19.symm)
  have kn_b19 : h0.size ≤ b19 := Nat.le_trans xK18.1 (Nat.le_of_eq g19.symm)
  have xF20 := xF11.ext E19
  have xF21 := xF12.ext E19
  have xF22 := xF13.ext E19
  have xF23 := xF14.ext E19
  have xF24 := xF15.ext E19
  have xZs25 := Nat.le_trans xZs17 E19.1
  have xK26 := Keep.ext xK18 E19
  have xF27 : ArF Z h19 b19 .double 0 (fun _ => (.double 0)) := own_new (h := h10) A19 (by decide)
  refine Gd.go (fun _ w_k => st19 _ w_k) ?_
  show Gd _ _ _ _ (T19.setTop (mkF m 15 #[.val (.ref b)] [(.ref b19), (.ref b)]))
  obtain ⟨T28, h28, X28, e28, W28, st28⟩ := putF X19 hx hZ hown (host := "") (Or.inl (hw _ (List.mem_of_getElem? (i := 20) rfl))) Via.refl e19 xF22 xF20 (Or.inl (hw _ (List.mem_of_getElem? (i := 21) rfl))) (hw _ (List.mem_of_getElem? (i := 10) rfl)) (ty := (.array .double)) (by decide) rfl rfl (g := (mkF m 15 #[.val (.ref b)] [(.ref b19), (.ref b)])) rfl rfl (hb hby d3_15)
  refine Gd.go (fun _ w_k => st28 _ w_k) ?_
  have xF29 := xF20.wr W28
  have xF30 := xF21.other W28 (Or.inr (slot_ne (Or.inl (hw _ (List.mem_of_getElem? (i := 18) rfl))) (Or.inl (hw _ (List.mem_of_getElem? (i := 21) rfl))) (by decide) (t := (.array .int)) (t' := (.array .double)) (by decide) (by decide)))
  have xF31 := xF22.same W28
  have xF32 := xF23.other W28 (Or.inr (slot_ne (Or.inl (hw _ (List.mem_of_getElem? (i := 32) rfl))) (Or.inl (hw _ (List.mem_of_getElem? (i := 21) rfl))) (by decide) (t := .int) (t' := (.array .double)) (by decide) (by decide)))
  have xF33 := xF24.other W28 (Ne.symm ne_b_b2)
  have xF34 := xF27.other W28 (Ne.symm ne_b_b19)
  have xN35 := Fr.snoc X28 xN16 gb
  have xZs36 := Nat.le_trans xZs25 (Keep.of_wr W28).1
  have xK37 := Keep.wr xK26 W28 (Or.inl (List.mem_singleton.mpr rfl))
  show Gd _ _ _ _ (T28.setTop (mkF m 18 #[.val (.ref b)] []))
  refine own_retV X28 hx hret hlk (hb hby d3_18) ?_ (by decide) (by decide)
  rw [e28]
  exact ⟨rfl, xK37, ⟨b2, b19, _, xF29, xF30, xF31, xF32, xF33, xF34, ⟨gb, n0_b2, n0_b19⟩, ne_b_b2, ne_b_b19, ne_b2_b19⟩, xZs36, xN35⟩
def own_S (Z : State) (h : Heap) (o : Addr) (n0 nt : Nat) (ft : Nat → Int32) (ne : Nat) (fe : Nat → Int32) : Prop :=
  ∃ t e : Addr, Exa Z h o "org/eventropy/core/SmallProbabilities" ∧ Fld Z h o "org/eventropy/core/SmallProbabilities" "transitions" "Lorg/eventropy/core/SmallProbabilities$Keyed;" (.ref t) ∧ Fld Z h o "org/eventropy/core/SmallProbabilities" "endings" "Lorg/eventropy/core/SmallProbabilities$Keyed;" (.ref e) ∧ own_K Z h t n0 (Int32.ofNat nt) nt ft ∧ own_K Z h e n0 (Int32.ofNat ne) ne fe ∧ t ≠ e ∧ n0 ≤ o ∧ o ≠ t ∧ o ≠ e
theorem own_S.exa {Z : State} {h : Heap} {o : Addr} {n0 nt ne : Nat} {ft fe : Nat → Int32} (H : own_S Z h o n0 nt ft ne fe) : Exa Z h o "org/eventropy/core/SmallProbabilities" := by obtain ⟨_, _, E, -⟩ := H; exact E
theorem own_pn8 : plainFor (⟨"org/eventropy/core/SmallProbabilities", "<init>", "()V"⟩ : MethodName) = true := by first | exact plainFor_of_name (by first | (simp [plainName, overriddenIn, x]; done) | decide +kernel) | decide +kernel
theorem ef_1 (m : MethodId) (q0 : Addr) : entryFrame m #[(.ref q0)] 1 = mkF m 0 #[.val (.ref q0)] [] := by first | (simp [entryFrame, mkF, argsToLocals, Value.category, maxLocals]; done) | rfl
theorem d1_0 : decode prog_48_method_1_code 0 = .ok (.aload_n 0, 1) := by decide +kernel
theorem d1_1 : decode prog_48_method_1_code 1 = .ok (.invokespecial 1, 3) := by decide +kernel
theorem d1_4 : decode prog_48_method_1_code 4 = .ok (.aload_n 0, 1) := by decide +kernel
theorem d1_5 : decode prog_48_method_1_code 5 = .ok (.new 7, 3) := by decide +kernel
theorem d1_8 : decode prog_48_method_1_code 8 = .ok (.dup, 1) := by decide +kernel
theorem own_pd2 : parseMethodDescriptor "()V" = some ⟨[], none⟩ := by decide +kernel
theorem d1_9 : decode prog_48_method_1_code 9 = .ok (.invokespecial 9, 3) := by decide +kernel
theorem d1_12 : decode prog_48_method_1_code 12 = .ok (.putfield 10, 3) := by decide +kernel
theorem d1_15 : decode prog_48_method_1_code 15 = .ok (.aload_n 0, 1) := by decide +kernel
theorem d1_16 : decode prog_48_method_1_code 16 = .ok (.new 7, 3) := by decide +kernel
theorem d1_19 : decode prog_48_method_1_code 19 = .ok (.dup, 1) := by decide +kernel
theorem d1_20 : decode prog_48_method_1_code 20 = .ok (.invokespecial 9, 3) := by decide +kernel
theorem d1_23 : decode prog_48_method_1_code 23 = .ok (.putfield 16, 3) := by decide +kernel
theorem d1_26 : decode prog_48_method_1_code 26 = .ok (.return_, 1) := by decide +kernel
set_option maxRecDepth 65536 in
set_option maxHeartbeats 40000000 in
theorem own_c1 (l : Launch) (Z : State) (a0 : Array Value) (hw : ∀ d ∈ tables_1, d.before a0 Z = true) (b : Addr) (h0 : Heap) (n0 : Nat) (Z0 : n0 ≤ h0.size) (gb : n0 ≤ b) (E0 : Exa Z h0 b "org/eventropy/core/SmallProbabilities") (F1 : Fld Z h0 b "org/eventropy/core/SmallProbabilities" "transitions" "Lorg/eventropy/core/SmallProbabilities$Keyed;" .null) (F2 : Fld Z h0 b "org/eventropy/core/SmallProbabilities" "endings" "Lorg/eventropy/core/SmallProbabilities$Keyed;" .null) :
    Con l Z (⟨"org/eventropy/core/SmallProbabilities", "<init>", "()V"⟩ : MethodName) prog_48_method_1_code 1 none [] ({ frames := 2, cells := 6, slots := 6, locals := 27 } : Room) 6 6 #[(.ref b)] h0 (fun r h L => r = none ∧ own_S Z h b n0 0 (fun _ => 0) 0 (fun _ => 0) ∧ Fr n0 L) := by
  refine Con.of own_pn8 ?_
  intro pg ev s_ m bl mt cd s₁ hx hby hml hown hnm hret hlk hZ X0 e0
  rw [ef_1]
  show Gd _ _ _ _ (s₁.setTop (mkF m 0 #[.val (.ref b)] []))
  have N0 := Fr.nil n0
  refine Gd.go (fun _ w_k => XS.aloadN X0.here hx rfl (hb hby d1_0) rfl rfl w_k) ?_
  show Gd _ _ _ _ (s₁.setTop (mkF m 1 #[.val (.ref b)] [(.ref b)]))
  obtain ⟨T1, X1, e1, st1⟩ := initO X0 hx hZ hown (hw _ (List.mem_of_getElem? (i := 6) rfl)) (hw _ (List.mem_of_getElem? (i := 7) rfl)) (hw _ (List.mem_of_getElem? (i := 8) rfl)) e0 (g := (mkF m 1 #[.val (.ref b)] [(.ref b)])) rfl (by rw [hml]; rfl) rfl (hb hby d1_1) (by decide) (W := 0) (Nat.le_of_eq rfl) (by decide)
  refine Gd.go (fun _ w_k => st1 _ w_k) ?_
  show Gd _ _ _ _ (T1.setTop (mkF m 4 #[.val (.ref b)] []))
  refine Gd.go (fun _ w_k => XS.aloadN X1.here hx rfl (hb hby d1_4) rfl rfl w_k) ?_
  show Gd _ _ _ _ (T1.setTop (mkF m 5 #[.val (.ref b)] [(.ref b)]))
  obtain ⟨T2, h2, X2, e2, E2, A2, D2, -, st2⟩ := newO X1 hx hZ hown (hw _ (List.mem_of_getElem? (i := 9) rfl)) (hw _ (List.mem_of_getElem? (i := 10) rfl)) (hw _ (List.mem_of_getElem? (i := 11) rfl)) e1 (g := (mkF m 5 #[.val (.ref b)] [(.ref b)])) rfl (hb hby d1_5) (by decide) (by decide)
  obtain ⟨b2, g2⟩ : ∃ z, z = h0.size := ⟨_, rfl⟩
  rw [← g2] at A2 D2 st2
  have ne_b_b2 : b ≠ b2 := fun q => Nat.lt_irrefl _ (Nat.lt_of_lt_of_le E0.lt (Nat.le_of_eq (q.trans g2).symm))
  have n0_b2 : n0 ≤ b2 := Nat.le_trans Z0 (Nat.le_of_eq g2.symm)
  have xF3 := E0.ext E2
  have xF4 := F1.ext E2
  have xF5 := F2.ext E2
  have xZs6 := Nat.le_trans Z0 E2.1
  have xF7 : Fld Z h2 b2 "org/eventropy/core/SmallProbabilities$Keyed" "keys" "[I" .null := D2 (Or.inl (hw _ (List.mem_of_getElem? (i := 18) rfl))) (ty := (.array .int)) (by decide)
  have xF8 : Fld Z h2 b2 "org/eventropy/core/SmallProbabilities$Keyed" "bits" "[D" .null := D2 (Or.inl (hw _ (List.mem_of_getElem? (i := 21) rfl))) (ty := (.array .double)) (by decide)
  have xF9 : Fld Z h2 b2 "org/eventropy/core/SmallProbabilities$Keyed" "size" "I" (.int (0 : Int32)) := D2 (Or.inl (hw _ (List.mem_of_getElem? (i := 32) rfl))) (ty := .int) (by decide)
  refine Gd.go (fun _ w_k => st2 _ w_k) ?_
  show Gd _ _ _ _ (T2.setTop (mkF m 8 #[.val (.ref b)] [(.ref b2), (.ref b)]))
  refine Gd.go (fun _ w_k => XS.dup X2.here hx rfl (hb hby d1_8) rfl rfl w_k) ?_
  show Gd _ _ _ _ (T2.setTop (mkF m 9 #[.val (.ref b)] [(.ref b2), (.ref b2), (.ref b)]))
  obtain ⟨v10, T10, L10, X10, hQ10, st10⟩ := own_callIR X2 hx hZ (y := (⟨"org/eventropy/core/SmallProbabilities$Keyed", "<init>", "()V"⟩ : MethodName)) rfl hown (hw _ (List.mem_of_getElem? (i := 12) rfl)) (hw _ (List.mem_of_getElem? (i := 13) rfl)) (hw _ (List.mem_of_getElem? (i := 11) rfl)) (hw _ (List.mem_of_getElem? (i := 14) rfl)) (by decide) (b := b2) (W := 2) (own_c3 l Z a0 hw b2 h2 n0 xZs6 n0_b2 A2 xF7 xF8 xF9) rfl rfl e2 (by decide) (by decide) (g := (mkF m 9 #[.val (.ref b)] [(.ref b2), (.ref b2), (.ref b)])) rfl (by rw [hml]; rfl) (argsL := []) (rest := [(.ref b2), (.ref b)]) (lenOf own_pd2 rfl) rfl (Nat.le_of_eq rfl) (hb hby d1_9) rfl (by decide) (by decide)
  obtain ⟨rfl, K_0, H_0, Z_0, N_0⟩ := hQ10
  refine Gd.go (fun _ w_k => st10 _ w_k) ?_
  show Gd _ _ _ _ (T10.setTop (mkF m 12 #[.val (.ref b)] [(.ref b2), (.ref b)]))
  have xF11 := xF3.keep K_0
  have xF12 := xF4.keep K_0 (ninS ne_b_b2 nin0)
  have xF13 := xF5.keep K_0 (ninS ne_b_b2 nin0)
  have xF14 := A2.keep K_0
  have xZs15 := Nat.le_trans xZs6 K_0.1
  have xN16 := Fr.app N0 N_0
  have xE := xF11
  obtain ⟨T17, h17, X17, e17, W17, st17⟩ := putF X10 hx hZ hown (host := "") (Or.inl (hw _ (List.mem_of_getElem? (i := 22) rfl))) Via.refl rfl xF12 xF11 (Or.inr ⟨(hw _ (List.mem_of_getElem? (i := 23) rfl)), rfl, hnm⟩) (hw _ (List.mem_of_getElem? (i := 1) rfl)) (ty := (.object "org/eventropy/core/SmallProbabilities$Keyed")) (by decide) rfl rfl (g := (mkF m 12 #[.val (.ref b)] [(.ref b2), (.ref b)])) rfl rfl (hb hby d1_12)
  refine Gd.go (fun _ w_k => st17 _ w_k) ?_
  have xF18 := xF11.wr W17
  have xF19 := xF12.same W17
  have xF20 := xF13.other W17 (Or.inr (slot_ne (Or.inr (hw _ (List.mem_of_getElem? (i := 25) rfl))) (Or.inr (hw _ (List.mem_of_getElem? (i := 23) rfl))) (by decide) (t := (.object "org/eventropy/core/SmallProbabilities$Keyed")) (t' := (.object "org/eventropy/core/SmallProbabilities$Keyed")) (by decide) (by decide)))
  have xF21 := xF14.wr W17
  have xF22 := H_0.wr W17 xE (hw _ (List.mem_of_getElem? (i := 1) rfl)) (Ne.symm ne_b_b2)
  have xN23 := Fr.snoc X17 xN16 gb
  have xZs24 := Nat.le_trans Z_0 (Keep.of_wr W17).1
  show Gd _ _ _ _ (T17.setTop (mkF m 15 #[.val (.ref b)] []))
  refine Gd.go (fun _ w_k => XS.aloadN X17.here hx rfl (hb hby d1_15) rfl rfl w_k) ?_
  show Gd _ _ _ _ (T17.setTop (mkF m 16 #[.val (.ref b)] [(.ref b)]))
  obtain ⟨T25, h25, X25, e25, E25, A25, D25, -, st25⟩ := newO X17 hx hZ hown (hw _ (List.mem_of_getElem? (i := 9) rfl)) (hw _ (List.mem_of_getElem? (i := 10) rfl)) (hw _ (List.mem_of_getElem? (i := 11) rfl)) e17 (g := (mkF m 16 #[.val (.ref b)] [(.ref b)])) rfl (hb hby d1_16) (by decide) (by decide)
  obtain ⟨b25, g25⟩ : ∃ z, z = h17.size := ⟨_, rfl⟩
  rw [← g25] at A25 D25 st25
  have ne_b_b25 : b ≠ b25 := fun q => Nat.lt_irrefl _ (Nat.lt_of_lt_of_le xF18.lt (Nat.le_of_eq (q.trans g25).symm))
  have ne_b2_b25 : b2 ≠ b25 := fun q => Nat.lt_irrefl _ (Nat.lt_of_lt_of_le xF21.lt (Nat.le_of_eq (q.trans g25).symm))
  have n0_b25 : n0 ≤ b25 := Nat.le_trans xZs24 (Nat.le_of_eq g25.symm)
  have xF26 := xF18.ext E25
  have xF27 := xF19.ext E25
  have xF28 := xF20.ext E25
  have xF29 := xF21.ext E25
  have xF30 := xF22.ext E25
  have xZs31 := Nat.le_trans xZs24 E25.1
  have xF32 : Fld Z h25 b25 "org/eventropy/core/SmallProbabilities$Keyed" "keys" "[I" .null := D25 (Or.inl (hw _ (List.mem_of_getElem? (i := 18) rfl))) (ty := (.array .int)) (by decide)
  have xF33 : Fld Z h25 b25 "org/eventropy/core/SmallProbabilities$Keyed" "bits" "[D" .null := D25 (Or.inl (hw _ (List.mem_of_getElem? (i := 21) rfl))) (ty := (.array .double)) (by decide)
  have xF34 : Fld Z h25 b25 "org/eventropy/core/SmallProbabilities$Keyed" "size" "I" (.int (0 : Int32)) := D25 (Or.inl (hw _ (List.mem_of_getElem? (i := 32) rfl))) (ty := .int) (by decide)
  refine Gd.go (fun _ w_k => st25 _ w_k) ?_
  show Gd _ _ _ _ (T25.setTop (mkF m 19 #[.val (.ref b)] [(.ref b25), (.ref b)]))
  refine Gd.go (fun _ w_k => XS.dup X25.here hx rfl (hb hby d1_19) rfl rfl w_k) ?_
  show Gd _ _ _ _ (T25.setTop (mkF m 20 #[.val (.ref b)] [(.ref b25), (.ref b25), (.ref b)]))
  obtain ⟨v35, T35, L35, X35, hQ35, st35⟩ := own_callIR X25 hx hZ (y := (⟨"org/eventropy/core/SmallProbabilities$Keyed", "<init>", "()V"⟩ : MethodName)) rfl hown (hw _ (List.mem_of_getElem? (i := 12) rfl)) (hw _ (List.mem_of_getElem? (i := 13) rfl)) (hw _ (List.mem_of_getElem? (i := 11) rfl)) (hw _ (List.mem_of_getElem? (i := 14) rfl)) (by decide) (b := b25) (W := 2) (own_c3 l Z a0 hw b25 h25 n0 xZs31 n0_b25 A25 xF32 xF33 xF34) rfl rfl e25 (by decide) (by decide) (g := (mkF m 20 #[.val (.ref b)] [(.ref b25), (.ref b25), (.ref b)])) rfl (by rw [hml]; rfl) (argsL := []) (rest := [(.ref b25), (.ref b)]) (lenOf own_pd2 rfl) rfl (Nat.le_of_eq rfl) (hb hby d1_20) rfl (by decide) (by decide)
  obtain ⟨rfl, K_1, H_1, Z_1, N_1⟩ := hQ35
  refine Gd.go (fun _ w_k => st35 _ w_k) ?_
  show Gd _ _ _ _ (T35.setTop (mkF m 23 #[.val (.ref b)] [(.ref b25), (.ref b)]))
  have xF36 := xF26.keep K_1
  have xF37 := xF27.keep K_1 (ninS ne_b_b25 nin0)
  have xF38 := xF28.keep K_1 (ninS ne_b_b25 nin0)
  have xF39 := xF29.keep K_1
  have xF40 := xF30.keep K_1 A25 (hw _ (List.mem_of_getElem? (i := 10) rfl)) ne_b2_b25
  have xF41 := A25.keep K_1
  have xZs42 := Nat.le_trans xZs31 K_1.1
  have xN43 := Fr.app xN23 N_1
  have xE := xF36
  obtain ⟨T44, h44, X44, e44, W44, st44⟩ := putF X35 hx hZ hown (host := "") (Or.inl (hw _ (List.mem_of_getElem? (i := 24) rfl))) Via.refl rfl xF38 xF36 (Or.inr ⟨(hw _ (List.mem_of_getElem? (i := 25) rfl)), rfl, hnm⟩) (hw _ (List.mem_of_getElem? (i := 1) rfl)) (ty := (.object "org/eventropy/core/SmallProbabilities$Keyed")) (by decide) rfl rfl (g := (mkF m 23 #[.val (.ref b)] [(.ref b25), (.ref b)])) rfl rfl (hb hby d1_23)
  refine Gd.go (fun _ w_k => st44 _ w_k) ?_
  have xF45 := xF36.wr W44
  have xF46 := xF37.other W44 (Or.inr (slot_ne (Or.inr (hw _ (List.mem_of_getElem? (i := 23) rfl))) (Or.inr (hw _ (List.mem_of_getElem? (i := 25) rfl))) (by decide) (t := (.object "org/eventropy/core/SmallProbabilities$Keyed")) (t' := (.object "org/eventropy/core/SmallProbabilities$Keyed")) (by decide) (by decide)))
  have xF47 := xF38.same W44
  have xF48 := xF39.wr W44
  have xF49 := xF40.wr W44 xE (hw _ (List.mem_of_getElem? (i := 1) rfl)) (Ne.symm ne_b_b2)
  have xF50 := xF41.wr W44
  have xF51 := H_1.wr W44 xE (hw _ (List.mem_of_getElem? (i := 1) rfl)) (Ne.symm ne_b_b25)
  have xN52 := Fr.snoc X44 xN43 gb
  have xZs53 := Nat.le_trans Z_1 (Keep.of_wr W44).1
  show Gd _ _ _ _ (T44.setTop (mkF m 26 #[.val (.ref b)] []))
  refine own_retV X44 hx hret hlk (hb hby d1_26) ?_ (by decide) (by decide)
  rw [e44]
  exact ⟨rfl, ⟨b2, b25, xF45, xF46, xF47, xF49, xF51, ne_b2_b25, gb, ne_b_b2, ne_b_b25⟩, xN52⟩
theorem own_pn9 : plainFor (⟨"org/eventropy/core/SmallProbabilities", "isEmpty", "()Z"⟩ : MethodName) = true := by first | exact plainFor_of_name (by first | (simp [plainName, overriddenIn, x]; done) | decide +kernel) | decide +kernel
theorem ef_4 (m : MethodId) (q0 : Addr) : entryFrame m #[(.ref q0)] 1 = mkF m 0 #[.val (.ref q0)] [] := by first | (simp [entryFrame, mkF, argsToLocals, Value.category, maxLocals]; done) | rfl
theorem d4_0 : decode prog_48_method_5_code 0 = .ok (.aload_n 0, 1) := by decide +kernel
theorem d4_1 : decode prog_48_method_5_code 1 = .ok (.getfield 10, 3) := by decide +kernel
theorem d4_4 : decode prog_48_method_5_code 4 = .ok (.getfield 27, 3) := by decide +kernel
theorem d4_7 : decode prog_48_method_5_code 7 = .ok (.ifCond .ne 17, 3) := by decide +kernel
theorem d4_10 : decode prog_48_method_5_code 10 = .ok (.aload_n 0, 1) := by decide +kernel
theorem d4_11 : decode prog_48_method_5_code 11 = .ok (.getfield 16, 3) := by decide +kernel
theorem d4_14 : decode prog_48_method_5_code 14 = .ok (.getfield 27, 3) := by decide +kernel
theorem d4_17 : decode prog_48_method_5_code 17 = .ok (.ifCond .ne 7, 3) := by decide +kernel
theorem d4_20 : decode prog_48_method_5_code 20 = .ok (.iconst 1, 1) := by decide +kernel
theorem d4_21 : decode prog_48_method_5_code 21 = .ok (.goto 4, 3) := by decide +kernel
theorem d4_25 : decode prog_48_method_5_code 25 = .ok (.ireturn, 1) := by decide +kernel
theorem d4_24 : decode prog_48_method_5_code 24 = .ok (.iconst 0, 1) := by decide +kernel
set_option maxRecDepth 65536 in
set_option maxHeartbeats 40000000 in
theorem own_c4 (l : Launch) (Z : State) (a0 : Array Value) (hw : ∀ d ∈ tables_1, d.before a0 Z = true) (o : Addr) (nt ne : Nat) (ft fe : Nat → Int32) (h0 : Heap) (n0 : Nat) (H : own_S Z h0 o n0 nt ft ne fe) :
    Con l Z (⟨"org/eventropy/core/SmallProbabilities", "isEmpty", "()Z"⟩ : MethodName) prog_48_method_5_code 1 (some .boolean) [] ({ frames := 0, cells := 0, slots := 0, locals := 0 } : Room) 0 0 #[(.ref o)] h0 (fun r h L => r = some (.int (bI (Int32.ofNat nt = 0 ∧ Int32.ofNat ne = 0))) ∧ h = h0 ∧ L = []) := by
  refine Con.of own_pn9 ?_
  intro pg ev s_ m bl mt cd s₁ hx hby hml hown hnm hret hlk hZ X0 e0
  rw [ef_4]
  show Gd _ _ _ _ (s₁.setTop (mkF m 0 #[.val (.ref o)] []))
  obtain ⟨t, e', E, F1, F2, Kt, Ke, r⟩ := H
  have S1 := Kt.size
  have S2 := Ke.size
  refine Gd.go (fun _ w_k => XS.aloadN X0.here hx rfl (hb hby d4_0) rfl rfl w_k) ?_
  show Gd _ _ _ _ (s₁.setTop (mkF m 1 #[.val (.ref o)] [(.ref o)]))
  obtain ⟨T1, X1, e1, st1⟩ := getF X0 hx hZ hown (host := "") (Or.inl (hw _ (List.mem_of_getElem? (i := 22) rfl))) Via.refl e0 F1 (g := (mkF m 1 #[.val (.ref o)] [(.ref o)])) rfl rfl (hb hby d4_1)
  refine Gd.go (fun _ w_k => st1 _ w_k) ?_
  show Gd _ _ _ _ (T1.setTop (mkF m 4 #[.val (.ref o)] [(.ref t)]))
  refine Gd.go (fun _ w_k => own_getR X1 hx hZ hown (hw _ (List.mem_of_getElem? (i := 31) rfl)) e1 S1 (g := (mkF m 4 #[.val (.ref o)] [(.ref t)])) rfl rfl (hb hby d4_4) _ w_k) ?_
  show Gd _ _ _ _ (T1.setTop (mkF m 7 #[.val (.ref o)] [(.int (Int32.ofNat nt))]))
  by_cases hc2 : (Int32.ofNat nt) = (0 : Int32)
  · refine Gd.go (fun _ w_k => XS.ifNo X1.here hx rfl (hb hby d4_7) rfl ((if0 _ _).trans (teq hc2).2) w_k) ?_
    show Gd _ _ _ _ (T1.setTop (mkF m 10 #[.val (.ref o)] []))
    refine Gd.go (fun _ w_k => XS.aloadN X1.here hx rfl (hb hby d4_10) rfl rfl w_k) ?_
    show Gd _ _ _ _ (T1.setTop (mkF m 11 #[.val (.ref o)] [(.ref o)]))
    obtain ⟨T3, X3, e3, st3⟩ := getF X1 hx hZ hown (host := "") (Or.inl (hw _ (List.mem_of_getElem? (i := 24) rfl))) Via.refl e1 F2 (g := (mkF m 11 #[.val (.ref o)] [(.ref o)])) rfl rfl (hb hby d4_11)
    refine Gd.go (fun _ w_k => st3 _ w_k) ?_
    show Gd _ _ _ _ (T3.setTop (mkF m 14 #[.val (.ref o)] [(.ref e')]))
    refine Gd.go (fun _ w_k => own_getR X3 hx hZ hown (hw _ (List.mem_of_getElem? (i := 31) rfl)) e3 S2 (g := (mkF m 14 #[.val (.ref o)] [(.ref e')])) rfl rfl (hb hby d4_14) _ w_k) ?_
    show Gd _ _ _ _ (T3.setTop (mkF m 17 #[.val (.ref o)] [(.int (Int32.ofNat ne))]))
    by_cases hc4 : (Int32.ofNat ne) = (0 : Int32)
    · refine Gd.go (fun _ w_k => XS.ifNo X3.here hx rfl (hb hby d4_17) rfl ((if0 _ _).trans (teq hc4).2) w_k) ?_
      show Gd _ _ _ _ (T3.setTop (mkF m 20 #[.val (.ref o)] []))
      refine Gd.go (fun _ w_k => XS.iconst X3.here hx rfl (hb hby d4_20) w_k) ?_
      show Gd _ _ _ _ (T3.setTop (mkF m 21 #[.val (.ref o)] [(.int (1 : Int32))]))
      refine Gd.go (fun _ w_k => XS.goto X3.here hx rfl (pc0 := 21) (pc' := 25) rfl (hb hby d4_21) (by decide) (by decide) w_k) ?_
      show Gd _ _ _ _ (T3.setTop (mkF m 25 #[.val (.ref o)] [(.int (1 : Int32))]))
      refine own_retN (t := .boolean) X3 hx hret hlk (by simp) (hb hby d4_25) ?_ (by decide) (by decide)
      exact ⟨by rw [bI_o ⟨hc2, hc4⟩]; rfl, e3, rfl⟩
    · refine Gd.go (fun _ w_k => XS.ifYes X3.here hx rfl (pc0 := 17) (pc' := 24) rfl (hb hby d4_17) rfl ((if0 _ _).trans (feq hc4).2) (by decide) (by decide) w_k) ?_
      show Gd _ _ _ _ (T3.setTop (mkF m 24 #[.val (.ref o)] []))
      refine Gd.go (fun _ w_k => XS.iconst X3.here hx rfl (hb hby d4_24) w_k) ?_
      show Gd _ _ _ _ (T3.setTop (mkF m 25 #[.val (.ref o)] [(.int (0 : Int32))]))
      refine own_retN (t := .boolean) X3 hx hret hlk (by simp) (hb hby d4_25) ?_ (by decide) (by decide)
      exact ⟨by rw [bI_z (fun q => hc4 q.2)]; rfl, e3, rfl⟩
  · refine Gd.go (fun _ w_k => XS.ifYes X1.here hx rfl (pc0 := 7) (pc' := 24) rfl (hb hby d4_7) rfl ((if0 _ _).trans (feq hc2).2) (by decide) (by decide) w_k) ?_
    show Gd _ _ _ _ (T1.setTop (mkF m 24 #[.val (.ref o)] []))
    refine Gd.go (fun _ w_k => XS.iconst X1.here hx rfl (hb hby d4_24) w_k) ?_
    show Gd _ _ _ _ (T1.setTop (mkF m 25 #[.val (.ref o)] [(.int (0 : Int32))]))
    refine own_retN (t := .boolean) X1 hx hret hlk (by simp) (hb hby d4_25) ?_ (by decide) (by decide)
    exact ⟨by rw [bI_z (fun q => hc2 q.1)]; rfl, e1, rfl⟩
theorem own_pn10 : plainFor (⟨"org/eventropy/core/SmallProbabilities$Keyed", "add", "(ID)V"⟩ : MethodName) = true := by first | exact plainFor_of_name (by first | (simp [plainName, overriddenIn, x]; done) | decide +kernel) | decide +kernel
theorem ef_8 (m : MethodId) (q0 : Addr) (q1 : Int32) (q2 : UInt64) : entryFrame m #[(.ref q0), (.int q1), (.double q2)] 5 = mkF m 0 #[.val (.ref q0), .val (.int q1), .val (.double q2), .second, .unset] [] := by first | (simp [entryFrame, mkF, argsToLocals, Value.category, maxLocals]; done) | rfl
theorem d8_0 : decode prog_49_method_2_code 0 = .ok (.aload_n 0, 1) := by decide +kernel
theorem d8_1 : decode prog_49_method_2_code 1 = .ok (.getfield 17, 3) := by decide +kernel
theorem d8_4 : decode prog_49_method_2_code 4 = .ok (.ifCond .le 43, 3) := by decide +kernel
theorem d8_47 : decode prog_49_method_2_code 47 = .ok (.aload_n 0, 1) := by decide +kernel
theorem d8_48 : decode prog_49_method_2_code 48 = .ok (.getfield 17, 3) := by decide +kernel
theorem d8_51 : decode prog_49_method_2_code 51 = .ok (.aload_n 0, 1) := by decide +kernel
theorem d8_52 : decode prog_49_method_2_code 52 = .ok (.getfield 7, 3) := by decide +kernel
theorem d8_55 : decode prog_49_method_2_code 55 = .ok (.arraylength, 1) := by decide +kernel
theorem d8_56 : decode prog_49_method_2_code 56 = .ok (.if_icmp .ne 38, 3) := by decide +kernel
theorem d8_59 : decode prog_49_method_2_code 59 = .ok (.aload_n 0, 1) := by decide +kernel
theorem d8_60 : decode prog_49_method_2_code 60 = .ok (.getfield 17, 3) := by decide +kernel
theorem own_pd3 : parseMethodDescriptor "(I)I" = some ⟨[.int], some .int⟩ := by decide +kernel
theorem d8_63 : decode prog_49_method_2_code 63 = .ok (.invokestatic 30, 3) := by decide +kernel
theorem d8_66 : decode prog_49_method_2_code 66 = .ok (.istore 4, 2) := by decide +kernel
theorem d8_68 : decode prog_49_method_2_code 68 = .ok (.aload_n 0, 1) := by decide +kernel
theorem d8_69 : decode prog_49_method_2_code 69 = .ok (.aload_n 0, 1) := by decide +kernel
theorem d8_70 : decode prog_49_method_2_code 70 = .ok (.getfield 7, 3) := by decide +kernel
theorem d8_73 : decode prog_49_method_2_code 73 = .ok (.iload 4, 2) := by decide +kernel
theorem own_pd4 : parseMethodDescriptor "([II)[I" = some ⟨[(.array .int), .int], some (.array .int)⟩ := by decide +kernel
theorem d8_75 : decode prog_49_method_2_code 75 = .ok (.invokestatic 36, 3) := by decide +kernel
theorem d8_78 : decode prog_49_method_2_code 78 = .ok (.putfield 7, 3) := by decide +kernel
theorem d8_81 : decode prog_49_method_2_code 81 = .ok (.aload_n 0, 1) := by decide +kernel
theorem d8_82 : decode prog_49_method_2_code 82 = .ok (.aload_n 0, 1) := by decide +kernel
theorem d8_83 : decode prog_49_method_2_code 83 = .ok (.getfield 13, 3) := by decide +kernel
theorem d8_86 : decode prog_49_method_2_code 86 = .ok (.iload 4, 2) := by decide +kernel
theorem own_pd5 : parseMethodDescriptor "([DI)[D" = some ⟨[(.array .double), .int], some (.array .double)⟩ := by decide +kernel
theorem d8_88 : decode prog_49_method_2_code 88 = .ok (.invokestatic 42, 3) := by decide +kernel
theorem d8_91 : decode prog_49_method_2_code 91 = .ok (.putfield 13, 3) := by decide +kernel
theorem d8_94 : decode prog_49_method_2_code 94 = .ok (.aload_n 0, 1) := by decide +kernel
theorem d8_95 : decode prog_49_method_2_code 95 = .ok (.getfield 7, 3) := by decide +kernel
theorem d8_98 : decode prog_49_method_2_code 98 = .ok (.aload_n 0, 1) := by decide +kernel
theorem d8_99 : decode prog_49_method_2_code 99 = .ok (.getfield 17, 3) := by decide +kernel
theorem d8_102 : decode prog_49_method_2_code 102 = .ok (.iload_n 1, 1) := by decide +kernel
theorem d8_103 : decode prog_49_method_2_code 103 = .ok (.iastore, 1) := by decide +kernel
theorem d8_104 : decode prog_49_method_2_code 104 = .ok (.aload_n 0, 1) := by decide +kernel
theorem d8_105 : decode prog_49_method_2_code 105 = .ok (.getfield 13, 3) := by decide +kernel
theorem d8_108 : decode prog_49_method_2_code 108 = .ok (.aload_n 0, 1) := by decide +kernel
theorem d8_109 : decode prog_49_method_2_code 109 = .ok (.getfield 17, 3) := by decide +kernel
theorem d8_112 : decode prog_49_method_2_code 112 = .ok (.dload_n 2, 1) := by decide +kernel
theorem d8_113 : decode prog_49_method_2_code 113 = .ok (.dastore, 1) := by decide +kernel
theorem d8_114 : decode prog_49_method_2_code 114 = .ok (.aload_n 0, 1) := by decide +kernel
theorem d8_115 : decode prog_49_method_2_code 115 = .ok (.dup, 1) := by decide +kernel
theorem d8_116 : decode prog_49_method_2_code 116 = .ok (.getfield 17, 3) := by decide +kernel
theorem d8_119 : decode prog_49_method_2_code 119 = .ok (.iconst 1, 1) := by decide +kernel
theorem d8_120 : decode prog_49_method_2_code 120 = .ok (.iadd, 1) := by decide +kernel
theorem d8_121 : decode prog_49_method_2_code 121 = .ok (.putfield 17, 3) := by decide +kernel
theorem d8_124 : decode prog_49_method_2_code 124 = .ok (.return_, 1) := by decide +kernel
set_option maxRecDepth 65536 in
set_option maxHeartbeats 40000000 in
theorem own_c8_0 (l : Launch) (Z : State) (a0 : Array Value) (hw : ∀ d ∈ tables_1, d.before a0 Z = true) (o : Addr) (key : Int32) (w : UInt64) (f : Nat → Int32) (h0 : Heap) (n0 : Nat) (Z0 : n0 ≤ h0.size) (H : own_K Z h0 o n0 (0 : Int32) 0 f) :
    Con l Z (⟨"org/eventropy/core/SmallProbabilities$Keyed", "add", "(ID)V"⟩ : MethodName) prog_49_method_2_code 5 none [] ({ frames := 2, cells := 2, slots := 4, locals := 60 } : Room) 2 4 #[(.ref o), (.int key), (.double w)] h0 (fun r h L => r = none ∧ Keep h0 h [o] ∧ (∃ f', own_K Z h o n0 (1 : Int32) 1 f' ∧ f' 0 = key) ∧ n0 ≤ h.size ∧ Fr n0 L) := by
  refine Con.of own_pn10 ?_
  intro pg ev s_ m bl mt cd s₁ hx hby hml hown hnm hret hlk hZ X0 e0
  rw [ef_8]
  show Gd _ _ _ _ (s₁.setTop (mkF m 0 #[.val (.ref o), .val (.int key), .val (.double w), .second, .unset] []))
  obtain ⟨K, B, g, E, F1, F2, F3, A1, A2, ⟨go, gK, gB⟩, ne1, ne2, ne3⟩ := H
  have N0 := Fr.nil n0
  have K0 := Keep.refl h0 [o]
  refine Gd.go (fun _ w_k => XS.aloadN X0.here hx rfl (hb hby d8_0) rfl rfl w_k) ?_
  show Gd _ _ _ _ (s₁.setTop (mkF m 1 #[.val (.ref o), .val (.int key), .val (.double w), .second, .unset] [(.ref o)]))
  obtain ⟨T1, X1, e1, st1⟩ := getF X0 hx hZ hown (host := "") (Or.inl (hw _ (List.mem_of_getElem? (i := 50) rfl))) Via.refl e0 F3 (g := (mkF m 1 #[.val (.ref o), .val (.int key), .val (.double w), .second, .unset] [(.ref o)])) rfl rfl (hb hby d8_1)
  refine Gd.go (fun _ w_k => st1 _ w_k) ?_
  show Gd _ _ _ _ (T1.setTop (mkF m 4 #[.val (.ref o), .val (.int key), .val (.double w), .second, .unset] [(.int (0 : Int32))]))
  refine Gd.go (fun _ w_k => XS.ifYes X1.here hx rfl (pc0 := 4) (pc' := 47) rfl (hb hby d8_4) rfl ((if0 _ _).trans (flt (by decide)).2.2.2) (by decide) (by decide) w_k) ?_
  show Gd _ _ _ _ (T1.setTop (mkF m 47 #[.val (.ref o), .val (.int key), .val (.double w), .second, .unset] []))
  refine Gd.go (fun _ w_k => XS.aloadN X1.here hx rfl (hb hby d8_47) rfl rfl w_k) ?_
  show Gd _ _ _ _ (T1.setTop (mkF m 48 #[.val (.ref o), .val (.int key), .val (.double w), .second, .unset] [(.ref o)]))
  obtain ⟨T2, X2, e2, st2⟩ := getF X1 hx hZ hown (host := "") (Or.inl (hw _ (List.mem_of_getElem? (i := 50) rfl))) Via.refl e1 F3 (g := (mkF m 48 #[.val (.ref o), .val (.int key), .val (.double w), .second, .unset] [(.ref o)])) rfl rfl (hb hby d8_48)
  refine Gd.go (fun _ w_k => st2 _ w_k) ?_
  show Gd _ _ _ _ (T2.setTop (mkF m 51 #[.val (.ref o), .val (.int key), .val (.double w), .second, .unset] [(.int (0 : Int32))]))
  refine Gd.go (fun _ w_k => XS.aloadN X2.here hx rfl (hb hby d8_51) rfl rfl w_k) ?_
  show Gd _ _ _ _ (T2.setTop (mkF m 52 #[.val (.ref o), .val (.int key), .val (.double w), .second, .unset] [(.ref o), (.int (0 : Int32))]))
  obtain ⟨T3, X3, e3, st3⟩ := getF X2 hx hZ hown (host := "") (Or.inl (hw _ (List.mem_of_getElem? (i := 17) rfl))) Via.refl e2 F1 (g := (mkF m 52 #[.val (.ref o), .val (.int key), .val (.double w), .second, .unset] [(.ref o), (.int (0 : Int32))])) rfl rfl (hb hby d8_52)
  refine Gd.go (fun _ w_k => st3 _ w_k) ?_
  show Gd _ _ _ _ (T3.setTop (mkF m 55 #[.val (.ref o), .val (.int key), .val (.double w), .second, .unset] [(.ref K), (.int (0 : Int32))]))
  refine Gd.go (fun _ w_k => own_len X3 hx hZ e3 A1 (z := (0 : Int32)) rfl (g := (mkF m 55 #[.val (.ref o), .val (.int key), .val (.double w), .second, .unset] [(.ref K), (.int (0 : Int32))])) rfl rfl (hb hby d8_55) _ w_k) ?_
  show Gd _ _ _ _ (T3.setTop (mkF m 56 #[.val (.ref o), .val (.int key), .val (.double w), .second, .unset] [(.int (0 : Int32)), (.int (0 : Int32))]))
  refine Gd.go (fun _ w_k => XS.icmpNo X3.here hx rfl (hb hby d8_56) rfl (teq rfl).2 w_k) ?_
  show Gd _ _ _ _ (T3.setTop (mkF m 59 #[.val (.ref o), .val (.int key), .val (.double w), .second, .unset] []))
  refine Gd.go (fun _ w_k => XS.aloadN X3.here hx rfl (hb hby d8_59) rfl rfl w_k) ?_
  show Gd _ _ _ _ (T3.setTop (mkF m 60 #[.val (.ref o), .val (.int key), .val (.double w), .second, .unset] [(.ref o)]))
  obtain ⟨T4, X4, e4, st4⟩ := getF X3 hx hZ hown (host := "") (Or.inl (hw _ (List.mem_of_getElem? (i := 50) rfl))) Via.refl e3 F3 (g := (mkF m 60 #[.val (.ref o), .val (.int key), .val (.double w), .second, .unset] [(.ref o)])) rfl rfl (hb hby d8_60)
  refine Gd.go (fun _ w_k => st4 _ w_k) ?_
  show Gd _ _ _ _ (T4.setTop (mkF m 63 #[.val (.ref o), .val (.int key), .val (.double w), .second, .unset] [(.int (0 : Int32))]))
  obtain ⟨T5, X5, e5, st5⟩ := own_callSP X4 hx hZ (y := (⟨"org/eventropy/core/AutomatonLayout", "grown", "(I)I"⟩ : MethodName)) hown (hw _ (List.mem_of_getElem? (i := 51) rfl)) (hw _ (List.mem_of_getElem? (i := 52) rfl)) (hw _ (List.mem_of_getElem? (i := 53) rfl)) (hw _ (List.mem_of_getElem? (i := 54) rfl)) (by decide) (W := 0) (own_c9_0 l Z a0 hw h0) rfl rfl e4 (by decide) (by decide) (g := (mkF m 63 #[.val (.ref o), .val (.int key), .val (.double w), .second, .unset] [(.int (0 : Int32))])) rfl (by rw [hml]; rfl) (argsL := [(.int (0 : Int32))]) (rest := []) (lenOf own_pd3 rfl) rfl (Nat.le_of_eq rfl) (hb hby d8_63) rfl
  refine Gd.go (fun _ w_k => st5 _ w_k) ?_
  show Gd _ _ _ _ (T5.setTop (mkF m 66 #[.val (.ref o), .val (.int key), .val (.double w), .second, .unset] [(.int (1 : Int32))]))
  refine Gd.go (fun _ w_k => XS.istore X5.here hx rfl (hb hby d8_66) rfl (l' := #[.val (.ref o), .val (.int key), .val (.double w), .second, .val (.int (1 : Int32))]) rfl w_k) ?_
  show Gd _ _ _ _ (T5.setTop (mkF m 68 #[.val (.ref o), .val (.int key), .val (.double w), .second, .val (.int (1 : Int32))] []))
  refine Gd.go (fun _ w_k => XS.aloadN X5.here hx rfl (hb hby d8_68) rfl rfl w_k) ?_
  show Gd _ _ _ _ (T5.setTop (mkF m 69 #[.val (.ref o), .val (.int key), .val (.double w), .second, .val (.int (1 : Int32))] [(.ref o)]))
  refine Gd.go (fun _ w_k => XS.aloadN X5.here hx rfl (hb hby d8_69) rfl rfl w_k) ?_
  show Gd _ _ _ _ (T5.setTop (mkF m 70 #[.val (.ref o), .val (.int key), .val (.double w), .second, .val (.int (1 : Int32))] [(.ref o), (.ref o)]))
  obtain ⟨T6, X6, e6, st6⟩ := getF X5 hx hZ hown (host := "") (Or.inl (hw _ (List.mem_of_getElem? (i := 17) rfl))) Via.refl e5 F1 (g := (mkF m 70 #[.val (.ref o), .val (.int key), .val (.double w), .second, .val (.int (1 : Int32))] [(.ref o), (.ref o)])) rfl rfl (hb hby d8_70)
  refine Gd.go (fun _ w_k => st6 _ w_k) ?_
  show Gd _ _ _ _ (T6.setTop (mkF m 73 #[.val (.ref o), .val (.int key), .val (.double w), .second, .val (.int (1 : Int32))] [(.ref K), (.ref o)]))
  refine Gd.go (fun _ w_k => XS.iload X6.here hx rfl (hb hby d8_73) rfl w_k) ?_
  show Gd _ _ _ _ (T6.setTop (mkF m 75 #[.val (.ref o), .val (.int key), .val (.double w), .second, .val (.int (1 : Int32))] [(.int (1 : Int32)), (.ref K), (.ref o)]))
  obtain ⟨v7, T7, L7, X7, hQ7, st7⟩ := own_callS X6 hx hZ (y := (⟨"java/util/Arrays", "copyOf", "([II)[I"⟩ : MethodName)) hown (hw _ (List.mem_of_getElem? (i := 64) rfl)) (hw _ (List.mem_of_getElem? (i := 65) rfl)) (hw _ (List.mem_of_getElem? (i := 66) rfl)) (hw _ (List.mem_of_getElem? (i := 67) rfl)) (by decide) (W := 1) (own_c12 l Z a0 hw K 0 f (1 : Int32) ⟨by decide, by decide⟩ h0 n0 Z0 A1) rfl rfl e6 (by decide) (by decide) (g := (mkF m 75 #[.val (.ref o), .val (.int key), .val (.double w), .second, .val (.int (1 : Int32))] [(.int (1 : Int32)), (.ref K), (.ref o)])) rfl (by rw [hml]; rfl) (argsL := [(.ref K), (.int (1 : Int32))]) (rest := [(.ref o)]) (lenOf own_pd4 rfl) rfl (Nat.le_of_eq rfl) (hb hby d8_75) rfl (by decide) (by decide)
  obtain ⟨K2, rfl, hs_K2, Kq_K2, Aq_K2, Nq_K2⟩ := hQ7
  refine Gd.go (fun _ w_k => st7 _ w_k) ?_
  show Gd _ _ _ _ (T7.setTop (mkF m 78 #[.val (.ref o), .val (.int key), .val (.double w), .second, .val (.int (1 : Int32))] [(.ref K2), (.ref o)]))
  have ne_o_K2 : o ≠ K2 := Nat.ne_of_lt (Nat.lt_of_lt_of_le E.lt hs_K2)
  have ne_K_K2 : K ≠ K2 := Nat.ne_of_lt (Nat.lt_of_lt_of_le A1.lt hs_K2)
  have ne_B_K2 : B ≠ K2 := Nat.ne_of_lt (Nat.lt_of_lt_of_le A2.lt hs_K2)
  have n0_K2 := Nat.le_trans Z0 hs_K2
  have kn_K2 := Nat.le_trans K0.1 hs_K2
  have xF8 := E.keep Kq_K2
  have xF9 := F1.keep Kq_K2 nin0
  have xF10 := F2.keep Kq_K2 nin0
  have xF11 := F3.keep Kq_K2 nin0
  have xF12 := A1.keep Kq_K2 nin0
  have xF13 := A2.keep Kq_K2 nin0
  have xZs14 := Nat.le_trans Z0 Kq_K2.1
  have xN15 := Fr.app N0 Nq_K2
  have xK16 := Keep.trans K0 Kq_K2 all0
  obtain ⟨T17, h17, X17, e17, W17, st17⟩ := putF X7 hx hZ hown (host := "") (Or.inl (hw _ (List.mem_of_getElem? (i := 17) rfl))) Via.refl rfl xF9 xF8 (Or.inl (hw _ (List.mem_of_getElem? (i := 18) rfl))) (hw _ (List.mem_of_getElem? (i := 10) rfl)) (ty := (.array .int)) (by decide) rfl rfl (g := (mkF m 78 #[.val (.ref o), .val (.int key), .val (.double w), .second, .val (.int (1 : Int32))] [(.ref K2), (.ref o)])) rfl rfl (hb hby d8_78)
  refine Gd.go (fun _ w_k => st17 _ w_k) ?_
  have xF18 := xF8.wr W17
  have xF19 := xF9.same W17
  have xF20 := xF10.other W17 (Or.inr (slot_ne (Or.inl (hw _ (List.mem_of_getElem? (i := 21) rfl))) (Or.inl (hw _ (List.mem_of_getElem? (i := 18) rfl))) (by decide) (t := (.array .double)) (t' := (.array .int)) (by decide) (by decide)))
  have xF21 := xF11.other W17 (Or.inr (slot_ne (Or.inl (hw _ (List.mem_of_getElem? (i := 32) rfl))) (Or.inl (hw _ (List.mem_of_getElem? (i := 18) rfl))) (by decide) (t := .int) (t' := (.array .int)) (by decide) (by decide)))
  have xF22 := xF12.other W17 (Ne.symm ne1)
  have xF23 := xF13.other W17 (Ne.symm ne2)
  have xF24 := Aq_K2.other W17 (Ne.symm ne_o_K2)
  have xN25 := Fr.snoc X17 xN15 go
  have xZs26 := Nat.le_trans xZs14 (Keep.of_wr W17).1
  have xK27 := Keep.wr xK16 W17 (Or.inl (List.mem_singleton.mpr rfl))
  show Gd _ _ _ _ (T17.setTop (mkF m 81 #[.val (.ref o), .val (.int key), .val (.double w), .second, .val (.int (1 : Int32))] []))
  refine Gd.go (fun _ w_k => XS.aloadN X17.here hx rfl (hb hby d8_81) rfl rfl w_k) ?_
  show Gd _ _ _ _ (T17.setTop (mkF m 82 #[.val (.ref o), .val (.int key), .val (.double w), .second, .val (.int (1 : Int32))] [(.ref o)]))
  refine Gd.go (fun _ w_k => XS.aloadN X17.here hx rfl (hb hby d8_82) rfl rfl w_k) ?_
  show Gd _ _ _ _ (T17.setTop (mkF m 83 #[.val (.ref o), .val (.int key), .val (.double w), .second, .val (.int (1 : Int32))] [(.ref o), (.ref o)]))
  obtain ⟨T28, X28, e28, st28⟩ := getF X17 hx hZ hown (host := "") (Or.inl (hw _ (List.mem_of_getElem? (i := 20) rfl))) Via.refl e17 xF20 (g := (mkF m 83 #[.val (.ref o), .val (.int key), .val (.double w), .second, .val (.int (1 : Int32))] [(.ref o), (.ref o)])) rfl rfl (hb hby d8_83)
  refine Gd.go (fun _ w_k => st28 _ w_k) ?_
  show Gd _ _ _ _ (T28.setTop (mkF m 86 #[.val (.ref o), .val (.int key), .val (.double w), .second, .val (.int (1 : Int32))] [(.ref B), (.ref o)]))
  refine Gd.go (fun _ w_k => XS.iload X28.here hx rfl (hb hby d8_86) rfl w_k) ?_
  show Gd _ _ _ _ (T28.setTop (mkF m 88 #[.val (.ref o), .val (.int key), .val (.double w), .second, .val (.int (1 : Int32))] [(.int (1 : Int32)), (.ref B), (.ref o)]))
  obtain ⟨v29, T29, L29, X29, hQ29, st29⟩ := own_callS X28 hx hZ (y := (⟨"java/util/Arrays", "copyOf", "([DI)[D"⟩ : MethodName)) hown (hw _ (List.mem_of_getElem? (i := 73) rfl)) (hw _ (List.mem_of_getElem? (i := 74) rfl)) (hw _ (List.mem_of_getElem? (i := 66) rfl)) (hw _ (List.mem_of_getElem? (i := 75) rfl)) (by decide) (W := 1) (own_c13 l Z a0 hw B 0 g (1 : Int32) ⟨by decide, by decide⟩ h17 n0 xZs26 xF23) rfl rfl e28 (by decide) (by decide) (g := (mkF m 88 #[.val (.ref o), .val (.int key), .val (.double w), .second, .val (.int (1 : Int32))] [(.int (1 : Int32)), (.ref B), (.ref o)])) rfl (by rw [hml]; rfl) (argsL := [(.ref B), (.int (1 : Int32))]) (rest := [(.ref o)]) (lenOf own_pd5 rfl) rfl (Nat.le_of_eq rfl) (hb hby d8_88) rfl (by decide) (by decide)
  obtain ⟨B2, rfl, hs_B2, Kq_B2, Aq_B2, Nq_B2⟩ := hQ29
  refine Gd.go (fun _ w_k => st29 _ w_k) ?_
  show Gd _ _ _ _ (T29.setTop (mkF m 91 #[.val (.ref o), .val (.int key), .val (.double w), .second, .val (.int (1 : Int32))] [(.ref B2), (.ref o)]))
  have ne_o_B2 : o ≠ B2 := Nat.ne_of_lt (Nat.lt_of_lt_of_le xF18.lt hs_B2)
  have ne_K_B2 : K ≠ B2 := Nat.ne_of_lt (Nat.lt_of_lt_of_le xF22.lt hs_B2)
  have ne_B_B2 : B ≠ B2 := Nat.ne_of_lt (Nat.lt_of_lt_of_le xF23.lt hs_B2)
  have ne_K2_B2 : K2 ≠ B2 := Nat.ne_of_lt (Nat.lt_of_lt_of_le xF24.lt hs_B2)
  have n0_B2 := Nat.le_trans xZs26 hs_B2
  have kn_B2 := Nat.le_trans xK27.1 hs_B2
  have xF30 := xF18.keep Kq_B2
  have xF31 := xF19.keep Kq_B2 nin0
  have xF32 := xF20.keep Kq_B2 nin0
  have xF33 := xF21.keep Kq_B2 nin0
  have xF34 := xF22.keep Kq_B2 nin0
  have xF35 := xF23.keep Kq_B2 nin0
  have xF36 := xF24.keep Kq_B2 nin0
  have xZs37 := Nat.le_trans xZs26 Kq_B2.1
  have xN38 := Fr.app xN25 Nq_B2
  have xK39 := Keep.trans xK27 Kq_B2 all0
  obtain ⟨T40, h40, X40, e40, W40, st40⟩ := putF X29 hx hZ hown (host := "") (Or.inl (hw _ (List.mem_of_getElem? (i := 20) rfl))) Via.refl rfl xF32 xF30 (Or.inl (hw _ (List.mem_of_getElem? (i := 21) rfl))) (hw _ (List.mem_of_getElem? (i := 10) rfl)) (ty := (.array .double)) (by decide) rfl rfl (g := (mkF m 91 #[.val (.ref o), .val (.int key), .val (.double w), .second, .val (.int (1 : Int32))] [(.ref B2), (.ref o)])) rfl rfl (hb hby d8_91)
  refine Gd.go (fun _ w_k => st40 _ w_k) ?_
  have xF41 := xF30.wr W40
  have xF42 := xF31.other W40 (Or.inr (slot_ne (Or.inl (hw _ (List.mem_of_getElem? (i := 18) rfl))) (Or.inl (hw _ (List.mem_of_getElem? (i := 21) rfl))) (by decide) (t := (.array .int)) (t' := (.array .double)) (by decide) (by decide)))
  have xF43 := xF32.same W40
  have xF44 := xF33.other W40 (Or.inr (slot_ne (Or.inl (hw _ (List.mem_of_getElem? (i := 32) rfl))) (Or.inl (hw _ (List.mem_of_getElem? (i := 21) rfl))) (by decide) (t := .int) (t' := (.array .double)) (by decide) (by decide)))
  have xF45 := xF34.other W40 (Ne.symm ne1)
  have xF46 := xF35.other W40 (Ne.symm ne2)
  have xF47 := xF36.other W40 (Ne.symm ne_o_K2)
  have xF48 := Aq_B2.other W40 (Ne.symm ne_o_B2)
  have xN49 := Fr.snoc X40 xN38 go
  have xZs50 := Nat.le_trans xZs37 (Keep.of_wr W40).1
  have xK51 := Keep.wr xK39 W40 (Or.inl (List.mem_singleton.mpr rfl))
  show Gd _ _ _ _ (T40.setTop (mkF m 94 #[.val (.ref o), .val (.int key), .val (.double w), .second, .val (.int (1 : Int32))] []))
  refine Gd.go (fun _ w_k => XS.aloadN X40.here hx rfl (hb hby d8_94) rfl rfl w_k) ?_
  show Gd _ _ _ _ (T40.setTop (mkF m 95 #[.val (.ref o), .val (.int key), .val (.double w), .second, .val (.int (1 : Int32))] [(.ref o)]))
  obtain ⟨T52, X52, e52, st52⟩ := getF X40 hx hZ hown (host := "") (Or.inl (hw _ (List.mem_of_getElem? (i := 17) rfl))) Via.refl e40 xF42 (g := (mkF m 95 #[.val (.ref o), .val (.int key), .val (.double w), .second, .val (.int (1 : Int32))] [(.ref o)])) rfl rfl (hb hby d8_95)
  refine Gd.go (fun _ w_k => st52 _ w_k) ?_
  show Gd _ _ _ _ (T52.setTop (mkF m 98 #[.val (.ref o), .val (.int key), .val (.double w), .second, .val (.int (1 : Int32))] [(.ref K2)]))
  refine Gd.go (fun _ w_k => XS.aloadN X52.here hx rfl (hb hby d8_98) rfl rfl w_k) ?_
  show Gd _ _ _ _ (T52.setTop (mkF m 99 #[.val (.ref o), .val (.int key), .val (.double w), .second, .val (.int (1 : Int32))] [(.ref o), (.ref K2)]))
  obtain ⟨T53, X53, e53, st53⟩ := getF X52 hx hZ hown (host := "") (Or.inl (hw _ (List.mem_of_getElem? (i := 50) rfl))) Via.refl e52 xF44 (g := (mkF m 99 #[.val (.ref o), .val (.int key), .val (.double w), .second, .val (.int (1 : Int32))] [(.ref o), (.ref K2)])) rfl rfl (hb hby d8_99)
  refine Gd.go (fun _ w_k => st53 _ w_k) ?_
  show Gd _ _ _ _ (T53.setTop (mkF m 102 #[.val (.ref o), .val (.int key), .val (.double w), .second, .val (.int (1 : Int32))] [(.int (0 : Int32)), (.ref K2)]))
  refine Gd.go (fun _ w_k => XS.iloadN X53.here hx rfl (hb hby d8_102) rfl w_k) ?_
  show Gd _ _ _ _ (T53.setTop (mkF m 103 #[.val (.ref o), .val (.int key), .val (.double w), .second, .val (.int (1 : Int32))] [(.int key), (.int (0 : Int32)), (.ref K2)]))
  obtain ⟨T54, h54, X54, e54, W54, st54⟩ := own_stI X53 hx hZ e53 xF47 (j := (0 : Int32)) (by decide) (by decide) (g := (mkF m 103 #[.val (.ref o), .val (.int key), .val (.double w), .second, .val (.int (1 : Int32))] [(.int key), (.int (0 : Int32)), (.ref K2)])) rfl rfl (hb hby d8_103)
  refine Gd.go (fun _ w_k => st54 _ w_k) ?_
  have xF55 := xF41.wr W54
  have xF56 := xF42.other W54 (Or.inl ne_o_K2)
  have xF57 := xF43.other W54 (Or.inl ne_o_K2)
  have xF58 := xF44.other W54 (Or.inl ne_o_K2)
  have xF59 := xF45.other W54 ne_K_K2
  have xF60 := xF46.other W54 ne_B_K2
  have xF61 := xF47.set W54
  have xF62 := xF48.other W54 (Ne.symm ne_K2_B2)
  have xN63 := Fr.snoc X54 xN49 n0_K2
  have xZs64 := Nat.le_trans xZs50 (Keep.of_wr W54).1
  have xK65 := Keep.wr xK51 W54 (Or.inr kn_K2)
  show Gd _ _ _ _ (T54.setTop (mkF m 104 #[.val (.ref o), .val (.int key), .val (.double w), .second, .val (.int (1 : Int32))] []))
  refine Gd.go (fun _ w_k => XS.aloadN X54.here hx rfl (hb hby d8_104) rfl rfl w_k) ?_
  show Gd _ _ _ _ (T54.setTop (mkF m 105 #[.val (.ref o), .val (.int key), .val (.double w), .second, .val (.int (1 : Int32))] [(.ref o)]))
  obtain ⟨T66, X66, e66, st66⟩ := getF X54 hx hZ hown (host := "") (Or.inl (hw _ (List.mem_of_getElem? (i := 20) rfl))) Via.refl e54 xF57 (g := (mkF m 105 #[.val (.ref o), .val (.int key), .val (.double w), .second, .val (.int (1 : Int32))] [(.ref o)])) rfl rfl (hb hby d8_105)
  refine Gd.go (fun _ w_k => st66 _ w_k) ?_
  show Gd _ _ _ _ (T66.setTop (mkF m 108 #[.val (.ref o), .val (.int key), .val (.double w), .second, .val (.int (1 : Int32))] [(.ref B2)]))
  refine Gd.go (fun _ w_k => XS.aloadN X66.here hx rfl (hb hby d8_108) rfl rfl w_k) ?_
  show Gd _ _ _ _ (T66.setTop (mkF m 109 #[.val (.ref o), .val (.int key), .val (.double w), .second, .val (.int (1 : Int32))] [(.ref o), (.ref B2)]))
  obtain ⟨T67, X67, e67, st67⟩ := getF X66 hx hZ hown (host := "") (Or.inl (hw _ (List.mem_of_getElem? (i := 50) rfl))) Via.refl e66 xF58 (g := (mkF m 109 #[.val (.ref o), .val (.int key), .val (.double w), .second, .val (.int (1 : Int32))] [(.ref o), (.ref B2)])) rfl rfl (hb hby d8_109)
  refine Gd.go (fun _ w_k => st67 _ w_k) ?_
  show Gd _ _ _ _ (T67.setTop (mkF m 112 #[.val (.ref o), .val (.int key), .val (.double w), .second, .val (.int (1 : Int32))] [(.int (0 : Int32)), (.ref B2)]))
  refine Gd.go (fun _ w_k => XS.dloadN X67.here hx rfl (hb hby d8_112) rfl w_k) ?_
  show Gd _ _ _ _ (T67.setTop (mkF m 113 #[.val (.ref o), .val (.int key), .val (.double w), .second, .val (.int (1 : Int32))] [(.double w), (.int (0 : Int32)), (.ref B2)]))
  obtain ⟨T68, h68, X68, e68, W68, st68⟩ := own_stD X67 hx hZ e67 xF62 (j := (0 : Int32)) (by decide) (by decide) (g := (mkF m 113 #[.val (.ref o), .val (.int key), .val (.double w), .second, .val (.int (1 : Int32))] [(.double w), (.int (0 : Int32)), (.ref B2)])) rfl rfl (hb hby d8_113)
  refine Gd.go (fun _ w_k => st68 _ w_k) ?_
  have xF69 := xF55.wr W68
  have xF70 := xF56.other W68 (Or.inl ne_o_B2)
  have xF71 := xF57.other W68 (Or.inl ne_o_B2)
  have xF72 := xF58.other W68 (Or.inl ne_o_B2)
  have xF73 := xF59.other W68 ne_K_B2
  have xF74 := xF60.other W68 ne_B_B2
  have xF75 := xF61.other W68 ne_K2_B2
  have xF76 := xF62.set W68
  have xN77 := Fr.snoc X68 xN63 n0_B2
  have xZs78 := Nat.le_trans xZs64 (Keep.of_wr W68).1
  have xK79 := Keep.wr xK65 W68 (Or.inr kn_B2)
  show Gd _ _ _ _ (T68.setTop (mkF m 114 #[.val (.ref o), .val (.int key), .val (.double w), .second, .val (.int (1 : Int32))] []))
  refine Gd.go (fun _ w_k => XS.aloadN X68.here hx rfl (hb hby d8_114) rfl rfl w_k) ?_
  show Gd _ _ _ _ (T68.setTop (mkF m 115 #[.val (.ref o), .val (.int key), .val (.double w), .second, .val (.int (1 : Int32))] [(.ref o)]))
  refine Gd.go (fun _ w_k => XS.dup X68.here hx rfl (hb hby d8_115) rfl rfl w_k) ?_
  show Gd _ _ _ _ (T68.setTop (mkF m 116 #[.val (.ref o), .val (.int key), .val (.double w), .second, .val (.int (1 : Int32))] [(.ref o), (.ref o)]))
  obtain ⟨T80, X80, e80, st80⟩ := getF X68 hx hZ hown (host := "") (Or.inl (hw _ (List.mem_of_getElem? (i := 50) rfl))) Via.refl e68 xF72 (g := (mkF m 116 #[.val (.ref o), .val (.int key), .val (.double w), .second, .val (.int (1 : Int32))] [(.ref o), (.ref o)])) rfl rfl (hb hby d8_116)
  refine Gd.go (fun _ w_k => st80 _ w_k) ?_
  show Gd _ _ _ _ (T80.setTop (mkF m 119 #[.val (.ref o), .val (.int key), .val (.double w), .second, .val (.int (1 : Int32))] [(.int (0 : Int32)), (.ref o)]))
  refine Gd.go (fun _ w_k => XS.iconst X80.here hx rfl (hb hby d8_119) w_k) ?_
  show Gd _ _ _ _ (T80.setTop (mkF m 120 #[.val (.ref o), .val (.int key), .val (.double w), .second, .val (.int (1 : Int32))] [(.int (1 : Int32)), (.int (0 : Int32)), (.ref o)]))
  refine Gd.go (fun _ w_k => XS.iadd X80.here hx rfl (hb hby d8_120) rfl w_k) ?_
  show Gd _ _ _ _ (T80.setTop (mkF m 121 #[.val (.ref o), .val (.int key), .val (.double w), .second, .val (.int (1 : Int32))] [(.int ((0 : Int32) + (1 : Int32))), (.ref o)]))
  obtain ⟨T81, h81, X81, e81, W81, st81⟩ := putF X80 hx hZ hown (host := "") (Or.inl (hw _ (List.mem_of_getElem? (i := 50) rfl))) Via.refl e80 xF72 xF69 (Or.inl (hw _ (List.mem_of_getElem? (i := 32) rfl))) (hw _ (List.mem_of_getElem? (i := 10) rfl)) (ty := .int) (by decide) rfl rfl (g := (mkF m 121 #[.val (.ref o), .val (.int key), .val (.double w), .second, .val (.int (1 : Int32))] [(.int ((0 : Int32) + (1 : Int32))), (.ref o)])) rfl rfl (hb hby d8_121)
  refine Gd.go (fun _ w_k => st81 _ w_k) ?_
  have xF82 := xF69.wr W81
  have xF83 := xF70.other W81 (Or.inr (slot_ne (Or.inl (hw _ (List.mem_of_getElem? (i := 18) rfl))) (Or.inl (hw _ (List.mem_of_getElem? (i := 32) rfl))) (by decide) (t := (.array .int)) (t' := .int) (by decide) (by decide)))
  have xF84 := xF71.other W81 (Or.inr (slot_ne (Or.inl (hw _ (List.mem_of_getElem? (i := 21) rfl))) (Or.inl (hw _ (List.mem_of_getElem? (i := 32) rfl))) (by decide) (t := (.array .double)) (t' := .int) (by decide) (by decide)))
  have xF85 := xF72.same W81
  have xF86 := xF73.other W81 (Ne.symm ne1)
  have xF87 := xF74.other W81 (Ne.symm ne2)
  have xF88 := xF75.other W81 (Ne.symm ne_o_K2)
  have xF89 := xF76.other W81 (Ne.symm ne_o_B2)
  have xN90 := Fr.snoc X81 xN77 go
  have xZs91 := Nat.le_trans xZs78 (Keep.of_wr W81).1
  have xK92 := Keep.wr xK79 W81 (Or.inl (List.mem_singleton.mpr rfl))
  show Gd _ _ _ _ (T81.setTop (mkF m 124 #[.val (.ref o), .val (.int key), .val (.double w), .second, .val (.int (1 : Int32))] []))
  refine own_retV X81 hx hret hlk (hb hby d8_124) ?_ (by decide) (by decide)
  rw [e81]
  have AK := xF88
  have AB := xF89
  rw [own_updI] at AK
  rw [own_updD] at AB
  exact ⟨rfl, xK92, ⟨_, ⟨K2, B2, _, xF82, xF83, xF84, xF85, AK, AB, ⟨go, n0_K2, n0_B2⟩, ne_o_K2, ne_o_B2, ne_K2_B2⟩, rfl⟩, xZs91, xN90⟩
theorem d8_7 : decode prog_49_method_2_code 7 = .ok (.aload_n 0, 1) := by decide +kernel
theorem d8_8 : decode prog_49_method_2_code 8 = .ok (.getfield 7, 3) := by decide +kernel
theorem d8_11 : decode prog_49_method_2_code 11 = .ok (.aload_n 0, 1) := by decide +kernel
theorem d8_12 : decode prog_49_method_2_code 12 = .ok (.getfield 17, 3) := by decide +kernel
theorem d8_15 : decode prog_49_method_2_code 15 = .ok (.iconst 1, 1) := by decide +kernel
theorem d8_16 : decode prog_49_method_2_code 16 = .ok (.isub, 1) := by decide +kernel
theorem d8_17 : decode prog_49_method_2_code 17 = .ok (.iaload, 1) := by decide +kernel
theorem d8_18 : decode prog_49_method_2_code 18 = .ok (.iload_n 1, 1) := by decide +kernel
theorem d8_19 : decode prog_49_method_2_code 19 = .ok (.if_icmp .lt 28, 3) := by decide +kernel
set_option maxRecDepth 65536 in
set_option maxHeartbeats 40000000 in
theorem own_c8_1 (l : Launch) (Z : State) (a0 : Array Value) (hw : ∀ d ∈ tables_1, d.before a0 Z = true) (o : Addr) (key : Int32) (w : UInt64) (f : Nat → Int32) (hlt : f 0 < key) (h0 : Heap) (n0 : Nat) (Z0 : n0 ≤ h0.size) (H : own_K Z h0 o n0 (1 : Int32) 1 f) :
    Con l Z (⟨"org/eventropy/core/SmallProbabilities$Keyed", "add", "(ID)V"⟩ : MethodName) prog_49_method_2_code 5 none [] ({ frames := 2, cells := 2, slots := 4, locals := 60 } : Room) 2 4 #[(.ref o), (.int key), (.double w)] h0 (fun r h L => r = none ∧ Keep h0 h [o] ∧ (∃ f', own_K Z h o n0 (2 : Int32) 2 f') ∧ n0 ≤ h.size ∧ Fr n0 L) := by
  refine Con.of own_pn10 ?_
  intro pg ev s_ m bl mt cd s₁ hx hby hml hown hnm hret hlk hZ X0 e0
  rw [ef_8]
  show Gd _ _ _ _ (s₁.setTop (mkF m 0 #[.val (.ref o), .val (.int key), .val (.double w), .second, .unset] []))
  obtain ⟨K, B, g, E, F1, F2, F3, A1, A2, ⟨go, gK, gB⟩, ne1, ne2, ne3⟩ := H
  have N0 := Fr.nil n0
  have K0 := Keep.refl h0 [o]
  refine Gd.go (fun _ w_k => XS.aloadN X0.here hx rfl (hb hby d8_0) rfl rfl w_k) ?_
  show Gd _ _ _ _ (s₁.setTop (mkF m 1 #[.val (.ref o), .val (.int key), .val (.double w), .second, .unset] [(.ref o)]))
  obtain ⟨T1, X1, e1, st1⟩ := getF X0 hx hZ hown (host := "") (Or.inl (hw _ (List.mem_of_getElem? (i := 50) rfl))) Via.refl e0 F3 (g := (mkF m 1 #[.val (.ref o), .val (.int key), .val (.double w), .second, .unset] [(.ref o)])) rfl rfl (hb hby d8_1)
  refine Gd.go (fun _ w_k => st1 _ w_k) ?_
  show Gd _ _ _ _ (T1.setTop (mkF m 4 #[.val (.ref o), .val (.int key), .val (.double w), .second, .unset] [(.int (1 : Int32))]))
  refine Gd.go (fun _ w_k => XS.ifNo X1.here hx rfl (hb hby d8_4) rfl ((if0 _ _).trans (tlt (by decide)).2.2.2) w_k) ?_
  show Gd _ _ _ _ (T1.setTop (mkF m 7 #[.val (.ref o), .val (.int key), .val (.double w), .second, .unset] []))
  refine Gd.go (fun _ w_k => XS.aloadN X1.here hx rfl (hb hby d8_7) rfl rfl w_k) ?_
  show Gd _ _ _ _ (T1.setTop (mkF m 8 #[.val (.ref o), .val (.int key), .val (.double w), .second, .unset] [(.ref o)]))
  obtain ⟨T2, X2, e2, st2⟩ := getF X1 hx hZ hown (host := "") (Or.inl (hw _ (List.mem_of_getElem? (i := 17) rfl))) Via.refl e1 F1 (g := (mkF m 8 #[.val (.ref o), .val (.int key), .val (.double w), .second, .unset] [(.ref o)])) rfl rfl (hb hby d8_8)
  refine Gd.go (fun _ w_k => st2 _ w_k) ?_
  show Gd _ _ _ _ (T2.setTop (mkF m 11 #[.val (.ref o), .val (.int key), .val (.double w), .second, .unset] [(.ref K)]))
  refine Gd.go (fun _ w_k => XS.aloadN X2.here hx rfl (hb hby d8_11) rfl rfl w_k) ?_
  show Gd _ _ _ _ (T2.setTop (mkF m 12 #[.val (.ref o), .val (.int key), .val (.double w), .second, .unset] [(.ref o), (.ref K)]))
  obtain ⟨T3, X3, e3, st3⟩ := getF X2 hx hZ hown (host := "") (Or.inl (hw _ (List.mem_of_getElem? (i := 50) rfl))) Via.refl e2 F3 (g := (mkF m 12 #[.val (.ref o), .val (.int key), .val (.double w), .second, .unset] [(.ref o), (.ref K)])) rfl rfl (hb hby d8_12)
  refine Gd.go (fun _ w_k => st3 _ w_k) ?_
  show Gd _ _ _ _ (T3.setTop (mkF m 15 #[.val (.ref o), .val (.int key), .val (.double w), .second, .unset] [(.int (1 : Int32)), (.ref K)]))
  refine Gd.go (fun _ w_k => XS.iconst X3.here hx rfl (hb hby d8_15) w_k) ?_
  show Gd _ _ _ _ (T3.setTop (mkF m 16 #[.val (.ref o), .val (.int key), .val (.double w), .second, .unset] [(.int (1 : Int32)), (.int (1 : Int32)), (.ref K)]))
  refine Gd.go (fun _ w_k => XS.isub X3.here hx rfl (hb hby d8_16) rfl w_k) ?_
  show Gd _ _ _ _ (T3.setTop (mkF m 17 #[.val (.ref o), .val (.int key), .val (.double w), .second, .unset] [(.int ((1 : Int32) - (1 : Int32))), (.ref K)]))
  refine Gd.go (fun _ w_k => own_ldI X3 hx hZ e3 A1 (j := ((1 : Int32) - (1 : Int32))) (by decide) (by decide) (v := (.int (f 0))) rfl (g := (mkF m 17 #[.val (.ref o), .val (.int key), .val (.double w), .second, .unset] [(.int ((1 : Int32) - (1 : Int32))), (.ref K)])) rfl rfl (hb hby d8_17) _ w_k) ?_
  show Gd _ _ _ _ (T3.setTop (mkF m 18 #[.val (.ref o), .val (.int key), .val (.double w), .second, .unset] [(.int (f 0))]))
  refine Gd.go (fun _ w_k => XS.iloadN X3.here hx rfl (hb hby d8_18) rfl w_k) ?_
  show Gd _ _ _ _ (T3.setTop (mkF m 19 #[.val (.ref o), .val (.int key), .val (.double w), .second, .unset] [(.int key), (.int (f 0))]))
  refine Gd.go (fun _ w_k => XS.icmpYes X3.here hx rfl (pc0 := 19) (pc' := 47) rfl (hb hby d8_19) rfl (tlt hlt).1 (by decide) (by decide) w_k) ?_
  show Gd _ _ _ _ (T3.setTop (mkF m 47 #[.val (.ref o), .val (.int key), .val (.double w), .second, .unset] []))
  refine Gd.go (fun _ w_k => XS.aloadN X3.here hx rfl (hb hby d8_47) rfl rfl w_k) ?_
  show Gd _ _ _ _ (T3.setTop (mkF m 48 #[.val (.ref o), .val (.int key), .val (.double w), .second, .unset] [(.ref o)]))
  obtain ⟨T4, X4, e4, st4⟩ := getF X3 hx hZ hown (host := "") (Or.inl (hw _ (List.mem_of_getElem? (i := 50) rfl))) Via.refl e3 F3 (g := (mkF m 48 #[.val (.ref o), .val (.int key), .val (.double w), .second, .unset] [(.ref o)])) rfl rfl (hb hby d8_48)
  refine Gd.go (fun _ w_k => st4 _ w_k) ?_
  show Gd _ _ _ _ (T4.setTop (mkF m 51 #[.val (.ref o), .val (.int key), .val (.double w), .second, .unset] [(.int (1 : Int32))]))
  refine Gd.go (fun _ w_k => XS.aloadN X4.here hx rfl (hb hby d8_51) rfl rfl w_k) ?_
  show Gd _ _ _ _ (T4.setTop (mkF m 52 #[.val (.ref o), .val (.int key), .val (.double w), .second, .unset] [(.ref o), (.int (1 : Int32))]))
  obtain ⟨T5, X5, e5, st5⟩ := getF X4 hx hZ hown (host := "") (Or.inl (hw _ (List.mem_of_getElem? (i := 17) rfl))) Via.refl e4 F1 (g := (mkF m 52 #[.val (.ref o), .val (.int key), .val (.double w), .second, .unset] [(.ref o), (.int (1 : Int32))])) rfl rfl (hb hby d8_52)
  refine Gd.go (fun _ w_k => st5 _ w_k) ?_
  show Gd _ _ _ _ (T5.setTop (mkF m 55 #[.val (.ref o), .val (.int key), .val (.double w), .second, .unset] [(.ref K), (.int (1 : Int32))]))
  refine Gd.go (fun _ w_k => own_len X5 hx hZ e5 A1 (z := (1 : Int32)) rfl (g := (mkF m 55 #[.val (.ref o), .val (.int key), .val (.double w), .second, .unset] [(.ref K), (.int (1 : Int32))])) rfl rfl (hb hby d8_55) _ w_k) ?_
  show Gd _ _ _ _ (T5.setTop (mkF m 56 #[.val (.ref o), .val (.int key), .val (.double w), .second, .unset] [(.int (1 : Int32)), (.int (1 : Int32))]))
  refine Gd.go (fun _ w_k => XS.icmpNo X5.here hx rfl (hb hby d8_56) rfl (teq rfl).2 w_k) ?_
  show Gd _ _ _ _ (T5.setTop (mkF m 59 #[.val (.ref o), .val (.int key), .val (.double w), .second, .unset] []))
  refine Gd.go (fun _ w_k => XS.aloadN X5.here hx rfl (hb hby d8_59) rfl rfl w_k) ?_
  show Gd _ _ _ _ (T5.setTop (mkF m 60 #[.val (.ref o), .val (.int key), .val (.double w), .second, .unset] [(.ref o)]))
  obtain ⟨T6, X6, e6, st6⟩ := getF X5 hx hZ hown (host := "") (Or.inl (hw _ (List.mem_of_getElem? (i := 50) rfl))) Via.refl e5 F3 (g := (mkF m 60 #[.val (.ref o), .val (.int key), .val (.double w), .second, .unset] [(.ref o)])) rfl rfl (hb hby d8_60)
  refine Gd.go (fun _ w_k => st6 _ w_k) ?_
  show Gd _ _ _ _ (T6.setTop (mkF m 63 #[.val (.ref o), .val (.int key), .val (.double w), .second, .unset] [(.int (1 : Int32))]))
  obtain ⟨T7, X7, e7, st7⟩ := own_callSP X6 hx hZ (y := (⟨"org/eventropy/core/AutomatonLayout", "grown", "(I)I"⟩ : MethodName)) hown (hw _ (List.mem_of_getElem? (i := 51) rfl)) (hw _ (List.mem_of_getElem? (i := 52) rfl)) (hw _ (List.mem_of_getElem? (i := 53) rfl)) (hw _ (List.mem_of_getElem? (i := 54) rfl)) (by decide) (W := 0) (own_c9_1 l Z a0 hw h0) rfl rfl e6 (by decide) (by decide) (g := (mkF m 63 #[.val (.ref o), .val (.int key), .val (.double w), .second, .unset] [(.int (1 : Int32))])) rfl (by rw [hml]; rfl) (argsL := [(.int (1 : Int32))]) (rest := []) (lenOf own_pd3 rfl) rfl (Nat.le_of_eq rfl) (hb hby d8_63) rfl
  refine Gd.go (fun _ w_k => st7 _ w_k) ?_
  show Gd _ _ _ _ (T7.setTop (mkF m 66 #[.val (.ref o), .val (.int key), .val (.double w), .second, .unset] [(.int (2 : Int32))]))
  refine Gd.go (fun _ w_k => XS.istore X7.here hx rfl (hb hby d8_66) rfl (l' := #[.val (.ref o), .val (.int key), .val (.double w), .second, .val (.int (2 : Int32))]) rfl w_k) ?_
  show Gd _ _ _ _ (T7.setTop (mkF m 68 #[.val (.ref o), .val (.int key), .val (.double w), .second, .val (.int (2 : Int32))] []))
  refine Gd.go (fun _ w_k => XS.aloadN X7.here hx rfl (hb hby d8_68) rfl rfl w_k) ?_
  show Gd _ _ _ _ (T7.setTop (mkF m 69 #[.val (.ref o), .val (.int key), .val (.double w), .second, .val (.int (2 : Int32))] [(.ref o)]))
  refine Gd.go (fun _ w_k => XS.aloadN X7.here hx rfl (hb hby d8_69) rfl rfl w_k) ?_
  show Gd _ _ _ _ (T7.setTop (mkF m 70 #[.val (.ref o), .val (.int key), .val (.double w), .second, .val (.int (2 : Int32))] [(.ref o), (.ref o)]))
  obtain ⟨T8, X8, e8, st8⟩ := getF X7 hx hZ hown (host := "") (Or.inl (hw _ (List.mem_of_getElem? (i := 17) rfl))) Via.refl e7 F1 (g := (mkF m 70 #[.val (.ref o), .val (.int key), .val (.double w), .second, .val (.int (2 : Int32))] [(.ref o), (.ref o)])) rfl rfl (hb hby d8_70)
  refine Gd.go (fun _ w_k => st8 _ w_k) ?_
  show Gd _ _ _ _ (T8.setTop (mkF m 73 #[.val (.ref o), .val (.int key), .val (.double w), .second, .val (.int (2 : Int32))] [(.ref K), (.ref o)]))
  refine Gd.go (fun _ w_k => XS.iload X8.here hx rfl (hb hby d8_73) rfl w_k) ?_
  show Gd _ _ _ _ (T8.setTop (mkF m 75 #[.val (.ref o), .val (.int key), .val (.double w), .second, .val (.int (2 : Int32))] [(.int (2 : Int32)), (.ref K), (.ref o)]))
  obtain ⟨v9, T9, L9, X9, hQ9, st9⟩ := own_callS X8 hx hZ (y := (⟨"java/util/Arrays", "copyOf", "([II)[I"⟩ : MethodName)) hown (hw _ (List.mem_of_getElem? (i := 64) rfl)) (hw _ (List.mem_of_getElem? (i := 65) rfl)) (hw _ (List.mem_of_getElem? (i := 66) rfl)) (hw _ (List.mem_of_getElem? (i := 67) rfl)) (by decide) (W := 1) (own_c12 l Z a0 hw K 1 f (2 : Int32) ⟨by decide, by decide⟩ h0 n0 Z0 A1) rfl rfl e8 (by decide) (by decide) (g := (mkF m 75 #[.val (.ref o), .val (.int key), .val (.double w), .second, .val (.int (2 : Int32))] [(.int (2 : Int32)), (.ref K), (.ref o)])) rfl (by rw [hml]; rfl) (argsL := [(.ref K), (.int (2 : Int32))]) (rest := [(.ref o)]) (lenOf own_pd4 rfl) rfl (Nat.le_of_eq rfl) (hb hby d8_75) rfl (by decide) (by decide)
  obtain ⟨K2, rfl, hs_K2, Kq_K2, Aq_K2, Nq_K2⟩ := hQ9
  refine Gd.go (fun _ w_k => st9 _ w_k) ?_
  show Gd _ _ _ _ (T9.setTop (mkF m 78 #[.val (.ref o), .val (.int key), .val (.double w), .second, .val (.int (2 : Int32))] [(.ref K2), (.ref o)]))
  have ne_o_K2 : o ≠ K2 := Nat.ne_of_lt (Nat.lt_of_lt_of_le E.lt hs_K2)
  have ne_K_K2 : K ≠ K2 := Nat.ne_of_lt (Nat.lt_of_lt_of_le A1.lt hs_K2)
  have ne_B_K2 : B ≠ K2 := Nat.ne_of_lt (Nat.lt_of_lt_of_le A2.lt hs_K2)
  have n0_K2 := Nat.le_trans Z0 hs_K2
  have kn_K2 := Nat.le_trans K0.1 hs_K2
  have xF10 := E.keep Kq_K2
  have xF11 := F1.keep Kq_K2 nin0
  have xF12 := F2.keep Kq_K2 nin0
  have xF13 := F3.keep Kq_K2 nin0
  have xF14 := A1.keep Kq_K2 nin0
  have xF15 := A2.keep Kq_K2 nin0
  have xZs16 := Nat.le_trans Z0 Kq_K2.1
  have xN17 := Fr.app N0 Nq_K2
  have xK18 := Keep.trans K0 Kq_K2 all0
  obtain ⟨T19, h19, X19, e19, W19, st19⟩ := putF X9 hx hZ hown (host := "") (Or.inl (hw _ (List.mem_of_getElem? (i := 17) rfl))) Via.refl rfl xF11 xF10 (Or.inl (hw _ (List.mem_of_getElem? (i := 18) rfl))) (hw _ (List.mem_of_getElem? (i := 10) rfl)) (ty := (.array .int)) (by decide) rfl rfl (g := (mkF m 78 #[.val (.ref o), .val (.int key), .val (.double w), .second, .val (.int (2 : Int32))] [(.ref K2), (.ref o)])) rfl rfl (hb hby d8_78)
  refine Gd.go (fun _ w_k => st19 _ w_k) ?_
  have xF20 := xF10.wr W19
  have xF21 := xF11.same W19
  have xF22 := xF12.other W19 (Or.inr (slot_ne (Or.inl (hw _ (List.mem_of_getElem? (i := 21) rfl))) (Or.inl (hw _ (List.mem_of_getElem? (i := 18) rfl))) (by decide) (t := (.array .double)) (t' := (.array .int)) (by decide) (by decide)))
  have xF23 := xF13.other W19 (Or.inr (slot_ne (Or.inl (hw _ (List.mem_of_getElem? (i := 32) rfl))) (Or.inl (hw _ (List.mem_of_getElem? (i := 18) rfl))) (by decide) (t := .int) (t' := (.array .int)) (by decide) (by decide)))
  have xF24 := xF14.other W19 (Ne.symm ne1)
  have xF25 := xF15.other W19 (Ne.symm ne2)
  have xF26 := Aq_K2.other W19 (Ne.symm ne_o_K2)
  have xN27 := Fr.snoc X19 xN17 go
  have xZs28 := Nat.le_trans xZs16 (Keep.of_wr W19).1
  have xK29 := Keep.wr xK18 W19 (Or.inl (List.mem_singleton.mpr rfl))
  show Gd _ _ _ _ (T19.setTop (mkF m 81 #[.val (.ref o), .val (.int key), .val (.double w), .second, .val (.int (2 : Int32))] []))
  refine Gd.go (fun _ w_k => XS.aloadN X19.here hx rfl (hb hby d8_81) rfl rfl w_k) ?_
  show Gd _ _ _ _ (T19.setTop (mkF m 82 #[.val (.ref o), .val (.int key), .val (.double w), .second, .val (.int (2 : Int32))] [(.ref o)]))
  refine Gd.go (fun _ w_k => XS.aloadN X19.here hx rfl (hb hby d8_82) rfl rfl w_k) ?_
  show Gd _ _ _ _ (T19.setTop (mkF m 83 #[.val (.ref o), .val (.int key), .val (.double w), .second, .val (.int (2 : Int32))] [(.ref o), (.ref o)]))
  obtain ⟨T30, X30, e30, st30⟩ := getF X19 hx hZ hown (host := "") (Or.inl (hw _ (List.mem_of_getElem? (i := 20) rfl))) Via.refl e19 xF22 (g := (mkF m 83 #[.val (.ref o), .val (.int key), .val (.double w), .second, .val (.int (2 : Int32))] [(.ref o), (.ref o)])) rfl rfl (hb hby d8_83)
  refine Gd.go (fun _ w_k => st30 _ w_k) ?_
  show Gd _ _ _ _ (T30.setTop (mkF m 86 #[.val (.ref o), .val (.int key), .val (.double w), .second, .val (.int (2 : Int32))] [(.ref B), (.ref o)]))
  refine Gd.go (fun _ w_k => XS.iload X30.here hx rfl (hb hby d8_86) rfl w_k) ?_
  show Gd _ _ _ _ (T30.setTop (mkF m 88 #[.val (.ref o), .val (.int key), .val (.double w), .second, .val (.int (2 : Int32))] [(.int (2 : Int32)), (.ref B), (.ref o)]))
  obtain ⟨v31, T31, L31, X31, hQ31, st31⟩ := own_callS X30 hx hZ (y := (⟨"java/util/Arrays", "copyOf", "([DI)[D"⟩ : MethodName)) hown (hw _ (List.mem_of_getElem? (i := 73) rfl)) (hw _ (List.mem_of_getElem? (i := 74) rfl)) (hw _ (List.mem_of_getElem? (i := 66) rfl)) (hw _ (List.mem_of_getElem? (i := 75) rfl)) (by decide) (W := 1) (own_c13 l Z a0 hw B 1 g (2 : Int32) ⟨by decide, by decide⟩ h19 n0 xZs28 xF25) rfl rfl e30 (by decide) (by decide) (g := (mkF m 88 #[.val (.ref o), .val (.int key), .val (.double w), .second, .val (.int (2 : Int32))] [(.int (2 : Int32)), (.ref B), (.ref o)])) rfl (by rw [hml]; rfl) (argsL := [(.ref B), (.int (2 : Int32))]) (rest := [(.ref o)]) (lenOf own_pd5 rfl) rfl (Nat.le_of_eq rfl) (hb hby d8_88) rfl (by decide) (by decide)
  obtain ⟨B2, rfl, hs_B2, Kq_B2, Aq_B2, Nq_B2⟩ := hQ31
  refine Gd.go (fun _ w_k => st31 _ w_k) ?_
  show Gd _ _ _ _ (T31.setTop (mkF m 91 #[.val (.ref o), .val (.int key), .val (.double w), .second, .val (.int (2 : Int32))] [(.ref B2), (.ref o)]))
  have ne_o_B2 : o ≠ B2 := Nat.ne_of_lt (Nat.lt_of_lt_of_le xF20.lt hs_B2)
  have ne_K_B2 : K ≠ B2 := Nat.ne_of_lt (Nat.lt_of_lt_of_le xF24.lt hs_B2)
  have ne_B_B2 : B ≠ B2 := Nat.ne_of_lt (Nat.lt_of_lt_of_le xF25.lt hs_B2)
  have ne_K2_B2 : K2 ≠ B2 := Nat.ne_of_lt (Nat.lt_of_lt_of_le xF26.lt hs_B2)
  have n0_B2 := Nat.le_trans xZs28 hs_B2
  have kn_B2 := Nat.le_trans xK29.1 hs_B2
  have xF32 := xF20.keep Kq_B2
  have xF33 := xF21.keep Kq_B2 nin0
  have xF34 := xF22.keep Kq_B2 nin0
  have xF35 := xF23.keep Kq_B2 nin0
  have xF36 := xF24.keep Kq_B2 nin0
  have xF37 := xF25.keep Kq_B2 nin0
  have xF38 := xF26.keep Kq_B2 nin0
  have xZs39 := Nat.le_trans xZs28 Kq_B2.1
  have xN40 := Fr.app xN27 Nq_B2
  have xK41 := Keep.trans xK29 Kq_B2 all0
  obtain ⟨T42, h42, X42, e42, W42, st42⟩ := putF X31 hx hZ hown (host := "") (Or.inl (hw _ (List.mem_of_getElem? (i := 20) rfl))) Via.refl rfl xF34 xF32 (Or.inl (hw _ (List.mem_of_getElem? (i := 21) rfl))) (hw _ (List.mem_of_getElem? (i := 10) rfl)) (ty := (.array .double)) (by decide) rfl rfl (g := (mkF m 91 #[.val (.ref o), .val (.int key), .val (.double w), .second, .val (.int (2 : Int32))] [(.ref B2), (.ref o)])) rfl rfl (hb hby d8_91)
  refine Gd.go (fun _ w_k => st42 _ w_k) ?_
  have xF43 := xF32.wr W42
  have xF44 := xF33.other W42 (Or.inr (slot_ne (Or.inl (hw _ (List.mem_of_getElem? (i := 18) rfl))) (Or.inl (hw _ (List.mem_of_getElem? (i := 21) rfl))) (by decide) (t := (.array .int)) (t' := (.array .double)) (by decide) (by decide)))
  have xF45 := xF34.same W42
  have xF46 := xF35.other W42 (Or.inr (slot_ne (Or.inl (hw _ (List.mem_of_getElem? (i := 32) rfl))) (Or.inl (hw _ (List.mem_of_getElem? (i := 21) rfl))) (by decide) (t := .int) (t' := (.array .double)) (by decide) (by decide)))
  have xF47 := xF36.other W42 (Ne.symm ne1)
  have xF48 := xF37.other W42 (Ne.symm ne2)
  have xF49 := xF38.other W42 (Ne.symm ne_o_K2)
  have xF50 := Aq_B2.other W42 (Ne.symm ne_o_B2)
  have xN51 := Fr.snoc X42 xN40 go
  have xZs52 := Nat.le_trans xZs39 (Keep.of_wr W42).1
  have xK53 := Keep.wr xK41 W42 (Or.inl (List.mem_singleton.mpr rfl))
  show Gd _ _ _ _ (T42.setTop (mkF m 94 #[.val (.ref o), .val (.int key), .val (.double w), .second, .val (.int (2 : Int32))] []))
  refine Gd.go (fun _ w_k => XS.aloadN X42.here hx rfl (hb hby d8_94) rfl rfl w_k) ?_
  show Gd _ _ _ _ (T42.setTop (mkF m 95 #[.val (.ref o), .val (.int key), .val (.double w), .second, .val (.int (2 : Int32))] [(.ref o)]))
  obtain ⟨T54, X54, e54, st54⟩ := getF X42 hx hZ hown (host := "") (Or.inl (hw _ (List.mem_of_getElem? (i := 17) rfl))) Via.refl e42 xF44 (g := (mkF m 95 #[.val (.ref o), .val (.int key), .val (.double w), .second, .val (.int (2 : Int32))] [(.ref o)])) rfl rfl (hb hby d8_95)
  refine Gd.go (fun _ w_k => st54 _ w_k) ?_
  show Gd _ _ _ _ (T54.setTop (mkF m 98 #[.val (.ref o), .val (.int key), .val (.double w), .second, .val (.int (2 : Int32))] [(.ref K2)]))
  refine Gd.go (fun _ w_k => XS.aloadN X54.here hx rfl (hb hby d8_98) rfl rfl w_k) ?_
  show Gd _ _ _ _ (T54.setTop (mkF m 99 #[.val (.ref o), .val (.int key), .val (.double w), .second, .val (.int (2 : Int32))] [(.ref o), (.ref K2)]))
  obtain ⟨T55, X55, e55, st55⟩ := getF X54 hx hZ hown (host := "") (Or.inl (hw _ (List.mem_of_getElem? (i := 50) rfl))) Via.refl e54 xF46 (g := (mkF m 99 #[.val (.ref o), .val (.int key), .val (.double w), .second, .val (.int (2 : Int32))] [(.ref o), (.ref K2)])) rfl rfl (hb hby d8_99)
  refine Gd.go (fun _ w_k => st55 _ w_k) ?_
  show Gd _ _ _ _ (T55.setTop (mkF m 102 #[.val (.ref o), .val (.int key), .val (.double w), .second, .val (.int (2 : Int32))] [(.int (1 : Int32)), (.ref K2)]))
  refine Gd.go (fun _ w_k => XS.iloadN X55.here hx rfl (hb hby d8_102) rfl w_k) ?_
  show Gd _ _ _ _ (T55.setTop (mkF m 103 #[.val (.ref o), .val (.int key), .val (.double w), .second, .val (.int (2 : Int32))] [(.int key), (.int (1 : Int32)), (.ref K2)]))
  obtain ⟨T56, h56, X56, e56, W56, st56⟩ := own_stI X55 hx hZ e55 xF49 (j := (1 : Int32)) (by decide) (by decide) (g := (mkF m 103 #[.val (.ref o), .val (.int key), .val (.double w), .second, .val (.int (2 : Int32))] [(.int key), (.int (1 : Int32)), (.ref K2)])) rfl rfl (hb hby d8_103)
  refine Gd.go (fun _ w_k => st56 _ w_k) ?_
  have xF57 := xF43.wr W56
  have xF58 := xF44.other W56 (Or.inl ne_o_K2)
  have xF59 := xF45.other W56 (Or.inl ne_o_K2)
  have xF60 := xF46.other W56 (Or.inl ne_o_K2)
  have xF61 := xF47.other W56 ne_K_K2
  have xF62 := xF48.other W56 ne_B_K2
  have xF63 := xF49.set W56
  have xF64 := xF50.other W56 (Ne.symm ne_K2_B2)
  have xN65 := Fr.snoc X56 xN51 n0_K2
  have xZs66 := Nat.le_trans xZs52 (Keep.of_wr W56).1
  have xK67 := Keep.wr xK53 W56 (Or.inr kn_K2)
  show Gd _ _ _ _ (T56.setTop (mkF m 104 #[.val (.ref o), .val (.int key), .val (.double w), .second, .val (.int (2 : Int32))] []))
  refine Gd.go (fun _ w_k => XS.aloadN X56.here hx rfl (hb hby d8_104) rfl rfl w_k) ?_
  show Gd _ _ _ _ (T56.setTop (mkF m 105 #[.val (.ref o), .val (.int key), .val (.double w), .second, .val (.int (2 : Int32))] [(.ref o)]))
  obtain ⟨T68, X68, e68, st68⟩ := getF X56 hx hZ hown (host := "") (Or.inl (hw _ (List.mem_of_getElem? (i := 20) rfl))) Via.refl e56 xF59 (g := (mkF m 105 #[.val (.ref o), .val (.int key), .val (.double w), .second, .val (.int (2 : Int32))] [(.ref o)])) rfl rfl (hb hby d8_105)
  refine Gd.go (fun _ w_k => st68 _ w_k) ?_
  show Gd _ _ _ _ (T68.setTop (mkF m 108 #[.val (.ref o), .val (.int key), .val (.double w), .second, .val (.int (2 : Int32))] [(.ref B2)]))
  refine Gd.go (fun _ w_k => XS.aloadN X68.here hx rfl (hb hby d8_108) rfl rfl w_k) ?_
  show Gd _ _ _ _ (T68.setTop (mkF m 109 #[.val (.ref o), .val (.int key), .val (.double w), .second, .val (.int (2 : Int32))] [(.ref o), (.ref B2)]))
  obtain ⟨T69, X69, e69, st69⟩ := getF X68 hx hZ hown (host := "") (Or.inl (hw _ (List.mem_of_getElem? (i := 50) rfl))) Via.refl e68 xF60 (g := (mkF m 109 #[.val (.ref o), .val (.int key), .val (.double w), .second, .val (.int (2 : Int32))] [(.ref o), (.ref B2)])) rfl rfl (hb hby d8_109)
  refine Gd.go (fun _ w_k => st69 _ w_k) ?_
  show Gd _ _ _ _ (T69.setTop (mkF m 112 #[.val (.ref o), .val (.int key), .val (.double w), .second, .val (.int (2 : Int32))] [(.int (1 : Int32)), (.ref B2)]))
  refine Gd.go (fun _ w_k => XS.dloadN X69.here hx rfl (hb hby d8_112) rfl w_k) ?_
  show Gd _ _ _ _ (T69.setTop (mkF m 113 #[.val (.ref o), .val (.int key), .val (.double w), .second, .val (.int (2 : Int32))] [(.double w), (.int (1 : Int32)), (.ref B2)]))
  obtain ⟨T70, h70, X70, e70, W70, st70⟩ := own_stD X69 hx hZ e69 xF64 (j := (1 : Int32)) (by decide) (by decide) (g := (mkF m 113 #[.val (.ref o), .val (.int key), .val (.double w), .second, .val (.int (2 : Int32))] [(.double w), (.int (1 : Int32)), (.ref B2)])) rfl rfl (hb hby d8_113)
  refine Gd.go (fun _ w_k => st70 _ w_k) ?_
  have xF71 := xF57.wr W70
  have xF72 := xF58.other W70 (Or.inl ne_o_B2)
  have xF73 := xF59.other W70 (Or.inl ne_o_B2)
  have xF74 := xF60.other W70 (Or.inl ne_o_B2)
  have xF75 := xF61.other W70 ne_K_B2
  have xF76 := xF62.other W70 ne_B_B2
  have xF77 := xF63.other W70 ne_K2_B2
  have xF78 := xF64.set W70
  have xN79 := Fr.snoc X70 xN65 n0_B2
  have xZs80 := Nat.le_trans xZs66 (Keep.of_wr W70).1
  have xK81 := Keep.wr xK67 W70 (Or.inr kn_B2)
  show Gd _ _ _ _ (T70.setTop (mkF m 114 #[.val (.ref o), .val (.int key), .val (.double w), .second, .val (.int (2 : Int32))] []))
  refine Gd.go (fun _ w_k => XS.aloadN X70.here hx rfl (hb hby d8_114) rfl rfl w_k) ?_
  show Gd _ _ _ _ (T70.setTop (mkF m 115 #[.val (.ref o), .val (.int key), .val (.double w), .second, .val (.int (2 : Int32))] [(.ref o)]))
  refine Gd.go (fun _ w_k => XS.dup X70.here hx rfl (hb hby d8_115) rfl rfl w_k) ?_
  show Gd _ _ _ _ (T70.setTop (mkF m 116 #[.val (.ref o), .val (.int key), .val (.double w), .second, .val (.int (2 : Int32))] [(.ref o), (.ref o)]))
  obtain ⟨T82, X82, e82, st82⟩ := getF X70 hx hZ hown (host := "") (Or.inl (hw _ (List.mem_of_getElem? (i := 50) rfl))) Via.refl e70 xF74 (g := (mkF m 116 #[.val (.ref o), .val (.int key), .val (.double w), .second, .val (.int (2 : Int32))] [(.ref o), (.ref o)])) rfl rfl (hb hby d8_116)
  refine Gd.go (fun _ w_k => st82 _ w_k) ?_
  show Gd _ _ _ _ (T82.setTop (mkF m 119 #[.val (.ref o), .val (.int key), .val (.double w), .second, .val (.int (2 : Int32))] [(.int (1 : Int32)), (.ref o)]))
  refine Gd.go (fun _ w_k => XS.iconst X82.here hx rfl (hb hby d8_119) w_k) ?_
  show Gd _ _ _ _ (T82.setTop (mkF m 120 #[.val (.ref o), .val (.int key), .val (.double w), .second, .val (.int (2 : Int32))] [(.int (1 : Int32)), (.int (1 : Int32)), (.ref o)]))
  refine Gd.go (fun _ w_k => XS.iadd X82.here hx rfl (hb hby d8_120) rfl w_k) ?_
  show Gd _ _ _ _ (T82.setTop (mkF m 121 #[.val (.ref o), .val (.int key), .val (.double w), .second, .val (.int (2 : Int32))] [(.int ((1 : Int32) + (1 : Int32))), (.ref o)]))
  obtain ⟨T83, h83, X83, e83, W83, st83⟩ := putF X82 hx hZ hown (host := "") (Or.inl (hw _ (List.mem_of_getElem? (i := 50) rfl))) Via.refl e82 xF74 xF71 (Or.inl (hw _ (List.mem_of_getElem? (i := 32) rfl))) (hw _ (List.mem_of_getElem? (i := 10) rfl)) (ty := .int) (by decide) rfl rfl (g := (mkF m 121 #[.val (.ref o), .val (.int key), .val (.double w), .second, .val (.int (2 : Int32))] [(.int ((1 : Int32) + (1 : Int32))), (.ref o)])) rfl rfl (hb hby d8_121)
  refine Gd.go (fun _ w_k => st83 _ w_k) ?_
  have xF84 := xF71.wr W83
  have xF85 := xF72.other W83 (Or.inr (slot_ne (Or.inl (hw _ (List.mem_of_getElem? (i := 18) rfl))) (Or.inl (hw _ (List.mem_of_getElem? (i := 32) rfl))) (by decide) (t := (.array .int)) (t' := .int) (by decide) (by decide)))
  have xF86 := xF73.other W83 (Or.inr (slot_ne (Or.inl (hw _ (List.mem_of_getElem? (i := 21) rfl))) (Or.inl (hw _ (List.mem_of_getElem? (i := 32) rfl))) (by decide) (t := (.array .double)) (t' := .int) (by decide) (by decide)))
  have xF87 := xF74.same W83
  have xF88 := xF75.other W83 (Ne.symm ne1)
  have xF89 := xF76.other W83 (Ne.symm ne2)
  have xF90 := xF77.other W83 (Ne.symm ne_o_K2)
  have xF91 := xF78.other W83 (Ne.symm ne_o_B2)
  have xN92 := Fr.snoc X83 xN79 go
  have xZs93 := Nat.le_trans xZs80 (Keep.of_wr W83).1
  have xK94 := Keep.wr xK81 W83 (Or.inl (List.mem_singleton.mpr rfl))
  show Gd _ _ _ _ (T83.setTop (mkF m 124 #[.val (.ref o), .val (.int key), .val (.double w), .second, .val (.int (2 : Int32))] []))
  refine own_retV X83 hx hret hlk (hb hby d8_124) ?_ (by decide) (by decide)
  rw [e83]
  have AK := xF90
  have AB := xF91
  rw [own_updI] at AK
  rw [own_updD] at AB
  exact ⟨rfl, xK94, ⟨_, ⟨K2, B2, _, xF84, xF85, xF86, xF87, AK, AB, ⟨go, n0_K2, n0_B2⟩, ne_o_K2, ne_o_B2, ne_K2_B2⟩⟩, xZs93, xN92⟩
theorem own_c8 (l : Launch) (Z : State) (a0 : Array Value) (hw : ∀ d ∈ tables_1, d.before a0 Z = true) (o : Addr) (key : Int32) (w : UInt64) (n : Nat) (f : Nat → Int32) (hn : n = 0 ∨ (n = 1 ∧ f 0 < key)) (h0 : Heap) (n0 : Nat) (Z0 : n0 ≤ h0.size) (H : own_K Z h0 o n0 (Int32.ofNat n) n f) :
    Con l Z (⟨"org/eventropy/core/SmallProbabilities$Keyed", "add", "(ID)V"⟩ : MethodName) prog_49_method_2_code 5 none [] ({ frames := 2, cells := 2, slots := 4, locals := 60 } : Room) 2 4 #[.ref o, .int key, .double w] h0 (fun r h L => r = none ∧ Keep h0 h [o] ∧ (∃ f', own_K Z h o n0 (Int32.ofNat (n + 1)) (n + 1) f' ∧ (n = 0 → f' 0 = key)) ∧ n0 ≤ h.size ∧ Fr n0 L) := by
  rcases hn with rfl | ⟨rfl, hlt⟩
  · refine (own_c8_0 l Z a0 hw o key w f h0 n0 Z0 H).weak ?_
    rintro v h L ⟨a1, a2, ⟨f', a3, a4⟩, a5, a6⟩
    exact ⟨a1, a2, ⟨f', a3, fun _ => a4⟩, a5, a6⟩
  · refine (own_c8_1 l Z a0 hw o key w f hlt h0 n0 Z0 H).weak ?_
    rintro v h L ⟨a1, a2, ⟨f', a3⟩, a5, a6⟩
    exact ⟨a1, a2, ⟨f', a3, fun q => absurd q (by decide)⟩, a5, a6⟩
theorem own_pn11 : plainFor (⟨"org/eventropy/core/SmallProbabilities", "addTransition", "(ID)V"⟩ : MethodName) = true := by first | exact plainFor_of_name (by first | (simp [plainName, overriddenIn, x]; done) | decide +kernel) | decide +kernel
theorem ef_7 (m : MethodId) (q0 : Addr) (q1 : Int32) (q2 : UInt64) : entryFrame m #[(.ref q0), (.int q1), (.double q2)] 4 = mkF m 0 #[.val (.ref q0), .val (.int q1), .val (.double q2), .second] [] := by first | (simp [entryFrame, mkF, argsToLocals, Value.category, maxLocals]; done) | rfl
theorem d7_0 : decode prog_48_method_3_code 0 = .ok (.aload_n 0, 1) := by decide +kernel
theorem d7_1 : decode prog_48_method_3_code 1 = .ok (.getfield 10, 3) := by decide +kernel
theorem d7_4 : decode prog_48_method_3_code 4 = .ok (.iload_n 1, 1) := by decide +kernel
theorem d7_5 : decode prog_48_method_3_code 5 = .ok (.dload_n 2, 1) := by decide +kernel
theorem own_pd6 : parseMethodDescriptor "(ID)V" = some ⟨[.int, .double], none⟩ := by decide +kernel
theorem d7_6 : decode prog_48_method_3_code 6 = .ok (.invokevirtual 23, 3) := by decide +kernel
theorem d7_9 : decode prog_48_method_3_code 9 = .ok (.return_, 1) := by decide +kernel
set_option maxRecDepth 65536 in
set_option maxHeartbeats 40000000 in
theorem own_c7 (l : Launch) (Z : State) (a0 : Array Value) (hw : ∀ d ∈ tables_1, d.before a0 Z = true) (o : Addr) (key : Int32) (w : UInt64) (nt ne : Nat) (ft fe : Nat → Int32) (hn : nt = 0 ∨ (nt = 1 ∧ ft 0 < key)) (h0 : Heap) (n0 : Nat) (Z0 : n0 ≤ h0.size) (H : own_S Z h0 o n0 nt ft ne fe) :
    Con l Z (⟨"org/eventropy/core/SmallProbabilities", "addTransition", "(ID)V"⟩ : MethodName) prog_48_method_3_code 4 none [] ({ frames := 3, cells := 2, slots := 4, locals := 76 } : Room) 2 4 #[(.ref o), (.int key), (.double w)] h0 (fun r h L => r = none ∧ (∃ f', own_S Z h o n0 (nt + 1) f' ne fe ∧ (nt = 0 → f' 0 = key)) ∧ n0 ≤ h.size ∧ Fr n0 L) := by
  refine Con.of own_pn11 ?_
  intro pg ev s_ m bl mt cd s₁ hx hby hml hown hnm hret hlk hZ X0 e0
  rw [ef_7]
  show Gd _ _ _ _ (s₁.setTop (mkF m 0 #[.val (.ref o), .val (.int key), .val (.double w), .second] []))
  obtain ⟨t, e', E, F1, F2, Kt, Ke, ne1, go, ne2, ne3⟩ := H
  refine Gd.go (fun _ w_k => XS.aloadN X0.here hx rfl (hb hby d7_0) rfl rfl w_k) ?_
  show Gd _ _ _ _ (s₁.setTop (mkF m 1 #[.val (.ref o), .val (.int key), .val (.double w), .second] [(.ref o)]))
  obtain ⟨T1, X1, e1, st1⟩ := getF X0 hx hZ hown (host := "") (Or.inl (hw _ (List.mem_of_getElem? (i := 22) rfl))) Via.refl e0 F1 (g := (mkF m 1 #[.val (.ref o), .val (.int key), .val (.double w), .second] [(.ref o)])) rfl rfl (hb hby d7_1)
  refine Gd.go (fun _ w_k => st1 _ w_k) ?_
  show Gd _ _ _ _ (T1.setTop (mkF m 4 #[.val (.ref o), .val (.int key), .val (.double w), .second] [(.ref t)]))
  refine Gd.go (fun _ w_k => XS.iloadN X1.here hx rfl (hb hby d7_4) rfl w_k) ?_
  show Gd _ _ _ _ (T1.setTop (mkF m 5 #[.val (.ref o), .val (.int key), .val (.double w), .second] [(.int key), (.ref t)]))
  refine Gd.go (fun _ w_k => XS.dloadN X1.here hx rfl (hb hby d7_5) rfl w_k) ?_
  show Gd _ _ _ _ (T1.setTop (mkF m 6 #[.val (.ref o), .val (.int key), .val (.double w), .second] [(.double w), (.int key), (.ref t)]))
  have xT := Kt.exa
  obtain ⟨v2, T2, L2, X2, hQ2, st2⟩ := own_callV X1 hx hZ (C := "org/eventropy/core/SmallProbabilities$Keyed") (y := (⟨"org/eventropy/core/SmallProbabilities$Keyed", "add", "(ID)V"⟩ : MethodName)) hown (hw _ (List.mem_of_getElem? (i := 45) rfl)) (hw _ (List.mem_of_getElem? (i := 46) rfl)) (hw _ (List.mem_of_getElem? (i := 48) rfl)) (hw _ (List.mem_of_getElem? (i := 47) rfl)) (hw _ (List.mem_of_getElem? (i := 11) rfl)) (hw _ (List.mem_of_getElem? (i := 49) rfl)) (by decide) xT (W := 0) (own_c8 l Z a0 hw t key w nt ft hn h0 n0 Z0 Kt) rfl rfl e1 (by decide) (by decide) (g := (mkF m 6 #[.val (.ref o), .val (.int key), .val (.double w), .second] [(.double w), (.int key), (.ref t)])) rfl (by rw [hml]; rfl) (argsL := [(.int key), (.double w)]) (rest := []) (lenOf own_pd6 rfl) rfl (Nat.le_of_eq rfl) (hb hby d7_6) rfl (by decide) (by decide)
  obtain ⟨rfl, K9, ⟨f', H9, q9⟩, Z9, N9⟩ := hQ2
  refine Gd.go (fun _ w_k => st2 _ w_k) ?_
  show Gd _ _ _ _ (T2.setTop (mkF m 9 #[.val (.ref o), .val (.int key), .val (.double w), .second] []))
  refine own_retV X2 hx hret hlk (hb hby d7_9) ?_ (by decide) (by decide)
  exact ⟨rfl, ⟨f', ⟨t, e', E.keep K9, F1.keep K9 (ninS ne2 nin0), F2.keep K9 (ninS ne2 nin0), H9, (Ke.keep K9 xT (hw _ (List.mem_of_getElem? (i := 10) rfl)) ne1.symm), ne1, go, ne2, ne3⟩, q9⟩, Z9, by simpa using N9⟩
theorem own_pn12 : plainFor (⟨"org/eventropy/core/SmallProbabilities", "addEnding", "(ID)V"⟩ : MethodName) = true := by first | exact plainFor_of_name (by first | (simp [plainName, overriddenIn, x]; done) | decide +kernel) | decide +kernel
theorem ef_14 (m : MethodId) (q0 : Addr) (q1 : Int32) (q2 : UInt64) : entryFrame m #[(.ref q0), (.int q1), (.double q2)] 4 = mkF m 0 #[.val (.ref q0), .val (.int q1), .val (.double q2), .second] [] := by first | (simp [entryFrame, mkF, argsToLocals, Value.category, maxLocals]; done) | rfl
theorem d14_0 : decode prog_48_method_4_code 0 = .ok (.aload_n 0, 1) := by decide +kernel
theorem d14_1 : decode prog_48_method_4_code 1 = .ok (.getfield 16, 3) := by decide +kernel
theorem d14_4 : decode prog_48_method_4_code 4 = .ok (.iload_n 1, 1) := by decide +kernel
theorem d14_5 : decode prog_48_method_4_code 5 = .ok (.dload_n 2, 1) := by decide +kernel
theorem d14_6 : decode prog_48_method_4_code 6 = .ok (.invokevirtual 23, 3) := by decide +kernel
theorem d14_9 : decode prog_48_method_4_code 9 = .ok (.return_, 1) := by decide +kernel
set_option maxRecDepth 65536 in
set_option maxHeartbeats 40000000 in
theorem own_c14 (l : Launch) (Z : State) (a0 : Array Value) (hw : ∀ d ∈ tables_1, d.before a0 Z = true) (o : Addr) (key : Int32) (w : UInt64) (nt ne : Nat) (ft fe : Nat → Int32) (hn : ne = 0 ∨ (ne = 1 ∧ fe 0 < key)) (h0 : Heap) (n0 : Nat) (Z0 : n0 ≤ h0.size) (H : own_S Z h0 o n0 nt ft ne fe) :
    Con l Z (⟨"org/eventropy/core/SmallProbabilities", "addEnding", "(ID)V"⟩ : MethodName) prog_48_method_4_code 4 none [] ({ frames := 3, cells := 2, slots := 4, locals := 76 } : Room) 2 4 #[(.ref o), (.int key), (.double w)] h0 (fun r h L => r = none ∧ (∃ f', own_S Z h o n0 nt ft (ne + 1) f' ∧ (ne = 0 → f' 0 = key)) ∧ n0 ≤ h.size ∧ Fr n0 L) := by
  refine Con.of own_pn12 ?_
  intro pg ev s_ m bl mt cd s₁ hx hby hml hown hnm hret hlk hZ X0 e0
  rw [ef_14]
  show Gd _ _ _ _ (s₁.setTop (mkF m 0 #[.val (.ref o), .val (.int key), .val (.double w), .second] []))
  obtain ⟨t, e', E, F1, F2, Kt, Ke, ne1, go, ne2, ne3⟩ := H
  refine Gd.go (fun _ w_k => XS.aloadN X0.here hx rfl (hb hby d14_0) rfl rfl w_k) ?_
  show Gd _ _ _ _ (s₁.setTop (mkF m 1 #[.val (.ref o), .val (.int key), .val (.double w), .second] [(.ref o)]))
  obtain ⟨T1, X1, e1, st1⟩ := getF X0 hx hZ hown (host := "") (Or.inl (hw _ (List.mem_of_getElem? (i := 24) rfl))) Via.refl e0 F2 (g := (mkF m 1 #[.val (.ref o), .val (.int key), .val (.double w), .second] [(.ref o)])) rfl rfl (hb hby d14_1)
  refine Gd.go (fun _ w_k => st1 _ w_k) ?_
  show Gd _ _ _ _ (T1.setTop (mkF m 4 #[.val (.ref o), .val (.int key), .val (.double w), .second] [(.ref e')]))
  refine Gd.go (fun _ w_k => XS.iloadN X1.here hx rfl (hb hby d14_4) rfl w_k) ?_
  show Gd _ _ _ _ (T1.setTop (mkF m 5 #[.val (.ref o), .val (.int key), .val (.double w), .second] [(.int key), (.ref e')]))
  refine Gd.go (fun _ w_k => XS.dloadN X1.here hx rfl (hb hby d14_5) rfl w_k) ?_
  show Gd _ _ _ _ (T1.setTop (mkF m 6 #[.val (.ref o), .val (.int key), .val (.double w), .second] [(.double w), (.int key), (.ref e')]))
  have xT := Ke.exa
  obtain ⟨v2, T2, L2, X2, hQ2, st2⟩ := own_callV X1 hx hZ (C := "org/eventropy/core/SmallProbabilities$Keyed") (y := (⟨"org/eventropy/core/SmallProbabilities$Keyed", "add", "(ID)V"⟩ : MethodName)) hown (hw _ (List.mem_of_getElem? (i := 45) rfl)) (hw _ (List.mem_of_getElem? (i := 46) rfl)) (hw _ (List.mem_of_getElem? (i := 48) rfl)) (hw _ (List.mem_of_getElem? (i := 47) rfl)) (hw _ (List.mem_of_getElem? (i := 11) rfl)) (hw _ (List.mem_of_getElem? (i := 49) rfl)) (by decide) xT (W := 0) (own_c8 l Z a0 hw e' key w ne fe hn h0 n0 Z0 Ke) rfl rfl e1 (by decide) (by decide) (g := (mkF m 6 #[.val (.ref o), .val (.int key), .val (.double w), .second] [(.double w), (.int key), (.ref e')])) rfl (by rw [hml]; rfl) (argsL := [(.int key), (.double w)]) (rest := []) (lenOf own_pd6 rfl) rfl (Nat.le_of_eq rfl) (hb hby d14_6) rfl (by decide) (by decide)
  obtain ⟨rfl, K9, ⟨f', H9, q9⟩, Z9, N9⟩ := hQ2
  refine Gd.go (fun _ w_k => st2 _ w_k) ?_
  show Gd _ _ _ _ (T2.setTop (mkF m 9 #[.val (.ref o), .val (.int key), .val (.double w), .second] []))
  refine own_retV X2 hx hret hlk (hb hby d14_9) ?_ (by decide) (by decide)
  exact ⟨rfl, ⟨f', ⟨t, e', E.keep K9, F1.keep K9 (ninS ne3 nin0), F2.keep K9 (ninS ne3 nin0), (Kt.keep K9 xT (hw _ (List.mem_of_getElem? (i := 10) rfl)) ne1), H9, ne1, go, ne2, ne3⟩, q9⟩, Z9, by simpa using N9⟩
theorem own_pn13 : plainFor x = true := by first | exact plainFor_of_name (by first | (simp [plainName, overriddenIn, x]; done) | decide +kernel) | decide +kernel
theorem ef_0 (m : MethodId) (q0 : Int32) (q1 : Int32) (q2 : Int32) (q3 : Int32) (q4 : Int32) : entryFrame m #[(.int q0), (.int q1), (.int q2), (.int q3), (.int q4)] maxLocals = mkF m 0 #[.val (.int q0), .val (.int q1), .val (.int q2), .val (.int q3), .val (.int q4), .unset, .unset, .unset, .unset, .unset, .unset, .unset, .unset, .unset, .unset, .unset, .unset, .unset, .unset, .unset] [] := by first | (simp [entryFrame, mkF, argsToLocals, Value.category, maxLocals]; done) | rfl
theorem own_S.zsize {Z : State} {h : Heap} {o : Addr} {n0 nt ne : Nat} {ft fe : Nat → Int32} (H : own_S Z h o n0 nt ft ne fe) : n0 ≤ h.size := by obtain ⟨_, _, E, _, _, _, _, _, g, -⟩ := H; exact Nat.le_of_lt (Nat.lt_of_le_of_lt g E.lt)
theorem own_u1 {o x : Int32} {n : Nat} {f : Nat → Int32} (q : (o = 0 ∧ n = 0) ∨ (¬ o = 0 ∧ n = 1 ∧ f 0 = x)) (h : o = 0) : n = 0 := q.elim (fun z => z.2) (fun z => absurd h z.1)
theorem own_u2 {o x y : Int32} {n : Nat} {f : Nat → Int32} (q : (o = 0 ∧ n = 0) ∨ (¬ o = 0 ∧ n = 1 ∧ f 0 = x)) (h : ¬ o = 0) (g : x < y) : n = 0 ∨ (n = 1 ∧ f 0 < y) := q.elim (fun z => absurd z.1 h) (fun z => Or.inr ⟨z.2.1, by rw [z.2.2]; exact g⟩)
theorem own_pd7 : parseMethodDescriptor "()Z" = some ⟨[], some .boolean⟩ := by decide +kernel
set_option maxRecDepth 65536 in
set_option maxHeartbeats 40000000 in
theorem own_law (l : Launch) (Z : State) (a0 : Array Value) (hw : ∀ d ∈ tables_1, d.before a0 Z = true) (md r1 r2 r3 r4 : Int32) (h0 : Heap) (n0 : Nat) (Z0 : n0 ≤ h0.size) :
    Con l Z x code maxLocals ret tables_1 room_1 40 128 #[(.int md), (.int r1), (.int r2), (.int r3), (.int r4)] h0 (fun v h L => v = some (.int 1) ∧ Fr n0 L) := by
  refine Con.of own_pn13 ?_
  intro pg ev s_ m bl mt cd s₁ hx hby hml hown hnm hret hlk hZ X0 e0
  rw [ef_0]
  show Gd _ _ _ _ (s₁.setTop (mkF m 0 #[.val (.int md), .val (.int r1), .val (.int r2), .val (.int r3), .val (.int r4), .unset, .unset, .unset, .unset, .unset, .unset, .unset, .unset, .unset, .unset, .unset, .unset, .unset, .unset, .unset] []))
  have N0 := Fr.nil n0
  obtain ⟨T1, h1, X1, e1, E1, A1, D1, -, st1⟩ := newO X0 hx hZ hown (hw _ (List.mem_of_getElem? (i := 0) rfl)) (hw _ (List.mem_of_getElem? (i := 1) rfl)) (hw _ (List.mem_of_getElem? (i := 2) rfl)) e0 (g := (mkF m 0 #[.val (.int md), .val (.int r1), .val (.int r2), .val (.int r3), .val (.int r4), .unset, .unset, .unset, .unset, .unset, .unset, .unset, .unset, .unset, .unset, .unset, .unset, .unset, .unset, .unset] [])) rfl (hb hby at_0) (by decide) (by decide)
  obtain ⟨b1, g1⟩ : ∃ z, z = h0.size := ⟨_, rfl⟩
  rw [← g1] at A1 D1 st1
  have n0_b1 : n0 ≤ b1 := Nat.le_trans Z0 (Nat.le_of_eq g1.symm)
  have xZs2 := Nat.le_trans Z0 E1.1
  have xF3 : Fld Z h1 b1 "org/eventropy/core/SmallProbabilities" "transitions" "Lorg/eventropy/core/SmallProbabilities$Keyed;" .null := D1 (Or.inr (hw _ (List.mem_of_getElem? (i := 23) rfl))) (ty := (.object "org/eventropy/core/SmallProbabilities$Keyed")) (by decide)
  have xF4 : Fld Z h1 b1 "org/eventropy/core/SmallProbabilities" "endings" "Lorg/eventropy/core/SmallProbabilities$Keyed;" .null := D1 (Or.inr (hw _ (List.mem_of_getElem? (i := 25) rfl))) (ty := (.object "org/eventropy/core/SmallProbabilities$Keyed")) (by decide)
  refine Gd.go (fun _ w_k => st1 _ w_k) ?_
  show Gd _ _ _ _ (T1.setTop (mkF m 3 #[.val (.int md), .val (.int r1), .val (.int r2), .val (.int r3), .val (.int r4), .unset, .unset, .unset, .unset, .unset, .unset, .unset, .unset, .unset, .unset, .unset, .unset, .unset, .unset, .unset] [(.ref b1)]))
  refine Gd.go (fun _ w_k => XS.dup X1.here hx rfl (hb hby at_3) rfl rfl w_k) ?_
  show Gd _ _ _ _ (T1.setTop (mkF m 4 #[.val (.int md), .val (.int r1), .val (.int r2), .val (.int r3), .val (.int r4), .unset, .unset, .unset, .unset, .unset, .unset, .unset, .unset, .unset, .unset, .unset, .unset, .unset, .unset, .unset] [(.ref b1), (.ref b1)]))
  obtain ⟨v5, T5, L5, X5, hQ5, st5⟩ := own_callI X1 hx hZ (y := (⟨"org/eventropy/core/SmallProbabilities", "<init>", "()V"⟩ : MethodName)) rfl hown (hw _ (List.mem_of_getElem? (i := 3) rfl)) (hw _ (List.mem_of_getElem? (i := 4) rfl)) (hw _ (List.mem_of_getElem? (i := 2) rfl)) (hw _ (List.mem_of_getElem? (i := 5) rfl)) (by decide) (b := b1) (W := 1) (own_c1 l Z a0 hw b1 h1 n0 xZs2 n0_b1 A1 xF3 xF4) rfl rfl e1 (by decide) (by decide) (g := (mkF m 4 #[.val (.int md), .val (.int r1), .val (.int r2), .val (.int r3), .val (.int r4), .unset, .unset, .unset, .unset, .unset, .unset, .unset, .unset, .unset, .unset, .unset, .unset, .unset, .unset, .unset] [(.ref b1), (.ref b1)])) rfl (by rw [hml]; rfl) (argsL := []) (rest := [(.ref b1)]) (lenOf own_pd2 rfl) rfl (Nat.le_of_eq rfl) (hb hby at_4) rfl (by decide) (by decide)
  obtain ⟨rfl, H0, N9⟩ := hQ5
  refine Gd.go (fun _ w_k => st5 _ w_k) ?_
  show Gd _ _ _ _ (T5.setTop (mkF m 7 #[.val (.int md), .val (.int r1), .val (.int r2), .val (.int r3), .val (.int r4), .unset, .unset, .unset, .unset, .unset, .unset, .unset, .unset, .unset, .unset, .unset, .unset, .unset, .unset, .unset] [(.ref b1)]))
  have NN0 := Fr.app N0 N9
  have Zh := H0.zsize
  refine Gd.go (fun _ w_k => XS.astore X5.here hx rfl (hb hby at_7) rfl rfl (l' := #[.val (.int md), .val (.int r1), .val (.int r2), .val (.int r3), .val (.int r4), .val (.ref b1), .unset, .unset, .unset, .unset, .unset, .unset, .unset, .unset, .unset, .unset, .unset, .unset, .unset, .unset]) rfl w_k) ?_
  show Gd _ _ _ _ (T5.setTop (mkF m 9 #[.val (.int md), .val (.int r1), .val (.int r2), .val (.int r3), .val (.int r4), .val (.ref b1), .unset, .unset, .unset, .unset, .unset, .unset, .unset, .unset, .unset, .unset, .unset, .unset, .unset, .unset] []))
  refine Gd.go (fun _ w_k => XS.aload X5.here hx rfl (hb hby at_9) rfl rfl w_k) ?_
  show Gd _ _ _ _ (T5.setTop (mkF m 11 #[.val (.int md), .val (.int r1), .val (.int r2), .val (.int r3), .val (.int r4), .val (.ref b1), .unset, .unset, .unset, .unset, .unset, .unset, .unset, .unset, .unset, .unset, .unset, .unset, .unset, .unset] [(.ref b1)]))
  obtain ⟨T6, X6, e6, st6⟩ := own_callVP X5 hx hZ (C := "org/eventropy/core/SmallProbabilities") (y := (⟨"org/eventropy/core/SmallProbabilities", "isEmpty", "()Z"⟩ : MethodName)) hown (hw _ (List.mem_of_getElem? (i := 26) rfl)) (hw _ (List.mem_of_getElem? (i := 27) rfl)) (hw _ (List.mem_of_getElem? (i := 29) rfl)) (hw _ (List.mem_of_getElem? (i := 28) rfl)) (hw _ (List.mem_of_getElem? (i := 2) rfl)) (hw _ (List.mem_of_getElem? (i := 30) rfl)) (by decide) H0.exa (W := 0) (own_c4 l Z a0 hw b1 0 0 (fun _ => 0) (fun _ => 0) T5.heap n0 H0) rfl rfl rfl (by decide) (by decide) (g := (mkF m 11 #[.val (.int md), .val (.int r1), .val (.int r2), .val (.int r3), .val (.int r4), .val (.ref b1), .unset, .unset, .unset, .unset, .unset, .unset, .unset, .unset, .unset, .unset, .unset, .unset, .unset, .unset] [(.ref b1)])) rfl (by rw [hml]; rfl) (argsL := []) (rest := []) (lenOf own_pd7 rfl) rfl (Nat.le_of_eq rfl) (hb hby at_11) rfl
  refine Gd.go (fun _ w_k => st6 _ w_k) ?_
  show Gd _ _ _ _ (T6.setTop (mkF m 14 #[.val (.int md), .val (.int r1), .val (.int r2), .val (.int r3), .val (.int r4), .val (.ref b1), .unset, .unset, .unset, .unset, .unset, .unset, .unset, .unset, .unset, .unset, .unset, .unset, .unset, .unset] [(.int (bI (Int32.ofNat 0 = 0 ∧ Int32.ofNat 0 = 0)))]))
  rw [show bI (Int32.ofNat 0 = 0 ∧ Int32.ofNat 0 = 0) = 1 from bI_o ⟨rfl, rfl⟩]
  show Gd _ _ _ _ (T6.setTop (mkF m 14 #[.val (.int md), .val (.int r1), .val (.int r2), .val (.int r3), .val (.int r4), .val (.ref b1), .unset, .unset, .unset, .unset, .unset, .unset, .unset, .unset, .unset, .unset, .unset, .unset, .unset, .unset] [(.int (1 : Int32))]))
  refine Gd.go (fun _ w_k => XS.istore X6.here hx rfl (hb hby at_14) rfl (l' := #[.val (.int md), .val (.int r1), .val (.int r2), .val (.int r3), .val (.int r4), .val (.ref b1), .val (.int (1 : Int32)), .unset, .unset, .unset, .unset, .unset, .unset, .unset, .unset, .unset, .unset, .unset, .unset, .unset]) rfl w_k) ?_
  show Gd _ _ _ _ (T6.setTop (mkF m 16 #[.val (.int md), .val (.int r1), .val (.int r2), .val (.int r3), .val (.int r4), .val (.ref b1), .val (.int (1 : Int32)), .unset, .unset, .unset, .unset, .unset, .unset, .unset, .unset, .unset, .unset, .unset, .unset, .unset] []))
  refine Gd.go (fun _ w_k => XS.iloadN X6.here hx rfl (hb hby at_16) rfl w_k) ?_
  show Gd _ _ _ _ (T6.setTop (mkF m 17 #[.val (.int md), .val (.int r1), .val (.int r2), .val (.int r3), .val (.int r4), .val (.ref b1), .val (.int (1 : Int32)), .unset, .unset, .unset, .unset, .unset, .unset, .unset, .unset, .unset, .unset, .unset, .unset, .unset] [(.int md)]))
  refine Gd.go (fun _ w_k => XS.iconst X6.here hx rfl (hb hby at_17) w_k) ?_
  show Gd _ _ _ _ (T6.setTop (mkF m 18 #[.val (.int md), .val (.int r1), .val (.int r2), .val (.int r3), .val (.int r4), .val (.ref b1), .val (.int (1 : Int32)), .unset, .unset, .unset, .unset, .unset, .unset, .unset, .unset, .unset, .unset, .unset, .unset, .unset] [(.int (4 : Int32)), (.int md)]))
  refine Gd.go (fun _ w_k => XS.iushr X6.here hx rfl (hb hby at_18) rfl w_k) ?_
  show Gd _ _ _ _ (T6.setTop (mkF m 19 #[.val (.int md), .val (.int r1), .val (.int r2), .val (.int r3), .val (.int r4), .val (.ref b1), .val (.int (1 : Int32)), .unset, .unset, .unset, .unset, .unset, .unset, .unset, .unset, .unset, .unset, .unset, .unset, .unset] [(.int ((md.toUInt32 >>> ((4 : Int32) &&& 31).toUInt32).toInt32))]))
  refine Gd.go (fun _ w_k => XS.sipush X6.here hx rfl (hb hby at_19) w_k) ?_
  show Gd _ _ _ _ (T6.setTop (mkF m 22 #[.val (.int md), .val (.int r1), .val (.int r2), .val (.int r3), .val (.int r4), .val (.ref b1), .val (.int (1 : Int32)), .unset, .unset, .unset, .unset, .unset, .unset, .unset, .unset, .unset, .unset, .unset, .unset, .unset] [(.int (255 : Int32)), (.int ((md.toUInt32 >>> ((4 : Int32) &&& 31).toUInt32).toInt32))]))
  refine Gd.go (fun _ w_k => XS.iand X6.here hx rfl (hb hby at_22) rfl w_k) ?_
  show Gd _ _ _ _ (T6.setTop (mkF m 23 #[.val (.int md), .val (.int r1), .val (.int r2), .val (.int r3), .val (.int r4), .val (.ref b1), .val (.int (1 : Int32)), .unset, .unset, .unset, .unset, .unset, .unset, .unset, .unset, .unset, .unset, .unset, .unset, .unset] [(.int (((md.toUInt32 >>> ((4 : Int32) &&& 31).toUInt32).toInt32) &&& (255 : Int32)))]))
  refine Gd.go (fun _ w_k => XS.iconst X6.here hx rfl (hb hby at_23) w_k) ?_
  show Gd _ _ _ _ (T6.setTop (mkF m 24 #[.val (.int md), .val (.int r1), .val (.int r2), .val (.int r3), .val (.int r4), .val (.ref b1), .val (.int (1 : Int32)), .unset, .unset, .unset, .unset, .unset, .unset, .unset, .unset, .unset, .unset, .unset, .unset, .unset] [(.int (1 : Int32)), (.int (((md.toUInt32 >>> ((4 : Int32) &&& 31).toUInt32).toInt32) &&& (255 : Int32)))]))
  refine Gd.go (fun _ w_k => XS.iadd X6.here hx rfl (hb hby at_24) rfl w_k) ?_
  show Gd _ _ _ _ (T6.setTop (mkF m 25 #[.val (.int md), .val (.int r1), .val (.int r2), .val (.int r3), .val (.int r4), .val (.ref b1), .val (.int (1 : Int32)), .unset, .unset, .unset, .unset, .unset, .unset, .unset, .unset, .unset, .unset, .unset, .unset, .unset] [(.int ((((md.toUInt32 >>> ((4 : Int32) &&& 31).toUInt32).toInt32) &&& (255 : Int32)) + (1 : Int32)))]))
  refine Gd.go (fun _ w_k => XS.i2dS X6.here hx rfl (hb hby at_25) rfl rfl w_k) ?_
  show Gd _ _ _ _ (T6.setTop (mkF m 26 #[.val (.int md), .val (.int r1), .val (.int r2), .val (.int r3), .val (.int r4), .val (.ref b1), .val (.int (1 : Int32)), .unset, .unset, .unset, .unset, .unset, .unset, .unset, .unset, .unset, .unset, .unset, .unset, .unset] [(.double (FP.i2d ((((md.toUInt32 >>> ((4 : Int32) &&& 31).toUInt32).toInt32) &&& (255 : Int32)) + (1 : Int32))))]))
  generalize (FP.i2d ((((md.toUInt32 >>> ((4 : Int32) &&& 31).toUInt32).toInt32) &&& (255 : Int32)) + (1 : Int32))) = bt
  show Gd _ _ _ _ (T6.setTop (mkF m 26 #[.val (.int md), .val (.int r1), .val (.int r2), .val (.int r3), .val (.int r4), .val (.ref b1), .val (.int (1 : Int32)), .unset, .unset, .unset, .unset, .unset, .unset, .unset, .unset, .unset, .unset, .unset, .unset, .unset] [(.double bt)]))
  refine Gd.go (fun _ w_k => XS.dstore X6.here hx rfl (hb hby at_26) rfl (l' := #[.val (.int md), .val (.int r1), .val (.int r2), .val (.int r3), .val (.int r4), .val (.ref b1), .val (.int (1 : Int32)), .val (.double bt), .second, .unset, .unset, .unset, .unset, .unset, .unset, .unset, .unset, .unset, .unset, .unset]) rfl w_k) ?_
  show Gd _ _ _ _ (T6.setTop (mkF m 28 #[.val (.int md), .val (.int r1), .val (.int r2), .val (.int r3), .val (.int r4), .val (.ref b1), .val (.int (1 : Int32)), .val (.double bt), .second, .unset, .unset, .unset, .unset, .unset, .unset, .unset, .unset, .unset, .unset, .unset] []))
  refine Gd.go (fun _ w_k => XS.iloadN X6.here hx rfl (hb hby at_28) rfl w_k) ?_
  show Gd _ _ _ _ (T6.setTop (mkF m 29 #[.val (.int md), .val (.int r1), .val (.int r2), .val (.int r3), .val (.int r4), .val (.ref b1), .val (.int (1 : Int32)), .val (.double bt), .second, .unset, .unset, .unset, .unset, .unset, .unset, .unset, .unset, .unset, .unset, .unset] [(.int r1)]))
  refine Gd.go (fun _ w_k => XS.iloadN X6.here hx rfl (hb hby at_29) rfl w_k) ?_
  show Gd _ _ _ _ (T6.setTop (mkF m 30 #[.val (.int md), .val (.int r1), .val (.int r2), .val (.int r3), .val (.int r4), .val (.ref b1), .val (.int (1 : Int32)), .val (.double bt), .second, .unset, .unset, .unset, .unset, .unset, .unset, .unset, .unset, .unset, .unset, .unset] [(.int r2), (.int r1)]))
  obtain ⟨T7, X7, e7, st7⟩ := own_callSP X6 hx hZ (y := (⟨"java/lang/Math", "min", "(II)I"⟩ : MethodName)) hown (hw _ (List.mem_of_getElem? (i := 33) rfl)) (hw _ (List.mem_of_getElem? (i := 34) rfl)) (hw _ (List.mem_of_getElem? (i := 35) rfl)) (hw _ (List.mem_of_getElem? (i := 36) rfl)) (by decide) (W := 0) (own_c5 l Z a0 hw r1 r2 T5.heap) rfl rfl e6 (by decide) (by decide) (g := (mkF m 30 #[.val (.int md), .val (.int r1), .val (.int r2), .val (.int r3), .val (.int r4), .val (.ref b1), .val (.int (1 : Int32)), .val (.double bt), .second, .unset, .unset, .unset, .unset, .unset, .unset, .unset, .unset, .unset, .unset, .unset] [(.int r2), (.int r1)])) rfl (by rw [hml]; rfl) (argsL := [(.int r1), (.int r2)]) (rest := []) (lenOf own_pd1 rfl) rfl (Nat.le_of_eq rfl) (hb hby at_30) rfl
  refine Gd.go (fun _ w_k => st7 _ w_k) ?_
  show Gd _ _ _ _ (T7.setTop (mkF m 33 #[.val (.int md), .val (.int r1), .val (.int r2), .val (.int r3), .val (.int r4), .val (.ref b1), .val (.int (1 : Int32)), .val (.double bt), .second, .unset, .unset, .unset, .unset, .unset, .unset, .unset, .unset, .unset, .unset, .unset] [(.int (if r2 < r1 then r2 else r1))]))
  generalize (if r2 < r1 then r2 else r1) = tLo
  show Gd _ _ _ _ (T7.setTop (mkF m 33 #[.val (.int md), .val (.int r1), .val (.int r2), .val (.int r3), .val (.int r4), .val (.ref b1), .val (.int (1 : Int32)), .val (.double bt), .second, .unset, .unset, .unset, .unset, .unset, .unset, .unset, .unset, .unset, .unset, .unset] [(.int tLo)]))
  refine Gd.go (fun _ w_k => XS.istore X7.here hx rfl (hb hby at_33) rfl (l' := #[.val (.int md), .val (.int r1), .val (.int r2), .val (.int r3), .val (.int r4), .val (.ref b1), .val (.int (1 : Int32)), .val (.double bt), .second, .val (.int tLo), .unset, .unset, .unset, .unset, .unset, .unset, .unset, .unset, .unset, .unset]) rfl w_k) ?_
  show Gd _ _ _ _ (T7.setTop (mkF m 35 #[.val (.int md), .val (.int r1), .val (.int r2), .val (.int r3), .val (.int r4), .val (.ref b1), .val (.int (1 : Int32)), .val (.double bt), .second, .val (.int tLo), .unset, .unset, .unset, .unset, .unset, .unset, .unset, .unset, .unset, .unset] []))
  refine Gd.go (fun _ w_k => XS.iloadN X7.here hx rfl (hb hby at_35) rfl w_k) ?_
  show Gd _ _ _ _ (T7.setTop (mkF m 36 #[.val (.int md), .val (.int r1), .val (.int r2), .val (.int r3), .val (.int r4), .val (.ref b1), .val (.int (1 : Int32)), .val (.double bt), .second, .val (.int tLo), .unset, .unset, .unset, .unset, .unset, .unset, .unset, .unset, .unset, .unset] [(.int r1)]))
  refine Gd.go (fun _ w_k => XS.iloadN X7.here hx rfl (hb hby at_36) rfl w_k) ?_
  show Gd _ _ _ _ (T7.setTop (mkF m 37 #[.val (.int md), .val (.int r1), .val (.int r2), .val (.int r3), .val (.int r4), .val (.ref b1), .val (.int (1 : Int32)), .val (.double bt), .second, .val (.int tLo), .unset, .unset, .unset, .unset, .unset, .unset, .unset, .unset, .unset, .unset] [(.int r2), (.int r1)]))
  obtain ⟨T8, X8, e8, st8⟩ := own_callSP X7 hx hZ (y := (⟨"java/lang/Math", "max", "(II)I"⟩ : MethodName)) hown (hw _ (List.mem_of_getElem? (i := 37) rfl)) (hw _ (List.mem_of_getElem? (i := 38) rfl)) (hw _ (List.mem_of_getElem? (i := 35) rfl)) (hw _ (List.mem_of_getElem? (i := 39) rfl)) (by decide) (W := 0) (own_c6 l Z a0 hw r1 r2 T5.heap) rfl rfl e7 (by decide) (by decide) (g := (mkF m 37 #[.val (.int md), .val (.int r1), .val (.int r2), .val (.int r3), .val (.int r4), .val (.ref b1), .val (.int (1 : Int32)), .val (.double bt), .second, .val (.int tLo), .unset, .unset, .unset, .unset, .unset, .unset, .unset, .unset, .unset, .unset] [(.int r2), (.int r1)])) rfl (by rw [hml]; rfl) (argsL := [(.int r1), (.int r2)]) (rest := []) (lenOf own_pd1 rfl) rfl (Nat.le_of_eq rfl) (hb hby at_37) rfl
  refine Gd.go (fun _ w_k => st8 _ w_k) ?_
  show Gd _ _ _ _ (T8.setTop (mkF m 40 #[.val (.int md), .val (.int r1), .val (.int r2), .val (.int r3), .val (.int r4), .val (.ref b1), .val (.int (1 : Int32)), .val (.double bt), .second, .val (.int tLo), .unset, .unset, .unset, .unset, .unset, .unset, .unset, .unset, .unset, .unset] [(.int (if r1 < r2 then r2 else r1))]))
  generalize (if r1 < r2 then r2 else r1) = tHi
  show Gd _ _ _ _ (T8.setTop (mkF m 40 #[.val (.int md), .val (.int r1), .val (.int r2), .val (.int r3), .val (.int r4), .val (.ref b1), .val (.int (1 : Int32)), .val (.double bt), .second, .val (.int tLo), .unset, .unset, .unset, .unset, .unset, .unset, .unset, .unset, .unset, .unset] [(.int tHi)]))
  refine Gd.go (fun _ w_k => XS.istore X8.here hx rfl (hb hby at_40) rfl (l' := #[.val (.int md), .val (.int r1), .val (.int r2), .val (.int r3), .val (.int r4), .val (.ref b1), .val (.int (1 : Int32)), .val (.double bt), .second, .val (.int tLo), .val (.int tHi), .unset, .unset, .unset, .unset, .unset, .unset, .unset, .unset, .unset]) rfl w_k) ?_
  show Gd _ _ _ _ (T8.setTop (mkF m 42 #[.val (.int md), .val (.int r1), .val (.int r2), .val (.int r3), .val (.int r4), .val (.ref b1), .val (.int (1 : Int32)), .val (.double bt), .second, .val (.int tLo), .val (.int tHi), .unset, .unset, .unset, .unset, .unset, .unset, .unset, .unset, .unset] []))
  refine Gd.go (fun _ w_k => XS.iloadN X8.here hx rfl (hb hby at_42) rfl w_k) ?_
  show Gd _ _ _ _ (T8.setTop (mkF m 43 #[.val (.int md), .val (.int r1), .val (.int r2), .val (.int r3), .val (.int r4), .val (.ref b1), .val (.int (1 : Int32)), .val (.double bt), .second, .val (.int tLo), .val (.int tHi), .unset, .unset, .unset, .unset, .unset, .unset, .unset, .unset, .unset] [(.int r3)]))
  refine Gd.go (fun _ w_k => XS.iload X8.here hx rfl (hb hby at_43) rfl w_k) ?_
  show Gd _ _ _ _ (T8.setTop (mkF m 45 #[.val (.int md), .val (.int r1), .val (.int r2), .val (.int r3), .val (.int r4), .val (.ref b1), .val (.int (1 : Int32)), .val (.double bt), .second, .val (.int tLo), .val (.int tHi), .unset, .unset, .unset, .unset, .unset, .unset, .unset, .unset, .unset] [(.int r4), (.int r3)]))
  obtain ⟨T9, X9, e9, st9⟩ := own_callSP X8 hx hZ (y := (⟨"java/lang/Math", "min", "(II)I"⟩ : MethodName)) hown (hw _ (List.mem_of_getElem? (i := 33) rfl)) (hw _ (List.mem_of_getElem? (i := 34) rfl)) (hw _ (List.mem_of_getElem? (i := 35) rfl)) (hw _ (List.mem_of_getElem? (i := 36) rfl)) (by decide) (W := 0) (own_c5 l Z a0 hw r3 r4 T5.heap) rfl rfl e8 (by decide) (by decide) (g := (mkF m 45 #[.val (.int md), .val (.int r1), .val (.int r2), .val (.int r3), .val (.int r4), .val (.ref b1), .val (.int (1 : Int32)), .val (.double bt), .second, .val (.int tLo), .val (.int tHi), .unset, .unset, .unset, .unset, .unset, .unset, .unset, .unset, .unset] [(.int r4), (.int r3)])) rfl (by rw [hml]; rfl) (argsL := [(.int r3), (.int r4)]) (rest := []) (lenOf own_pd1 rfl) rfl (Nat.le_of_eq rfl) (hb hby at_45) rfl
  refine Gd.go (fun _ w_k => st9 _ w_k) ?_
  show Gd _ _ _ _ (T9.setTop (mkF m 48 #[.val (.int md), .val (.int r1), .val (.int r2), .val (.int r3), .val (.int r4), .val (.ref b1), .val (.int (1 : Int32)), .val (.double bt), .second, .val (.int tLo), .val (.int tHi), .unset, .unset, .unset, .unset, .unset, .unset, .unset, .unset, .unset] [(.int (if r4 < r3 then r4 else r3))]))
  generalize (if r4 < r3 then r4 else r3) = eLo
  show Gd _ _ _ _ (T9.setTop (mkF m 48 #[.val (.int md), .val (.int r1), .val (.int r2), .val (.int r3), .val (.int r4), .val (.ref b1), .val (.int (1 : Int32)), .val (.double bt), .second, .val (.int tLo), .val (.int tHi), .unset, .unset, .unset, .unset, .unset, .unset, .unset, .unset, .unset] [(.int eLo)]))
  refine Gd.go (fun _ w_k => XS.istore X9.here hx rfl (hb hby at_48) rfl (l' := #[.val (.int md), .val (.int r1), .val (.int r2), .val (.int r3), .val (.int r4), .val (.ref b1), .val (.int (1 : Int32)), .val (.double bt), .second, .val (.int tLo), .val (.int tHi), .val (.int eLo), .unset, .unset, .unset, .unset, .unset, .unset, .unset, .unset]) rfl w_k) ?_
  show Gd _ _ _ _ (T9.setTop (mkF m 50 #[.val (.int md), .val (.int r1), .val (.int r2), .val (.int r3), .val (.int r4), .val (.ref b1), .val (.int (1 : Int32)), .val (.double bt), .second, .val (.int tLo), .val (.int tHi), .val (.int eLo), .unset, .unset, .unset, .unset, .unset, .unset, .unset, .unset] []))
  refine Gd.go (fun _ w_k => XS.iloadN X9.here hx rfl (hb hby at_50) rfl w_k) ?_
  show Gd _ _ _ _ (T9.setTop (mkF m 51 #[.val (.int md), .val (.int r1), .val (.int r2), .val (.int r3), .val (.int r4), .val (.ref b1), .val (.int (1 : Int32)), .val (.double bt), .second, .val (.int tLo), .val (.int tHi), .val (.int eLo), .unset, .unset, .unset, .unset, .unset, .unset, .unset, .unset] [(.int r3)]))
  refine Gd.go (fun _ w_k => XS.iload X9.here hx rfl (hb hby at_51) rfl w_k) ?_
  show Gd _ _ _ _ (T9.setTop (mkF m 53 #[.val (.int md), .val (.int r1), .val (.int r2), .val (.int r3), .val (.int r4), .val (.ref b1), .val (.int (1 : Int32)), .val (.double bt), .second, .val (.int tLo), .val (.int tHi), .val (.int eLo), .unset, .unset, .unset, .unset, .unset, .unset, .unset, .unset] [(.int r4), (.int r3)]))
  obtain ⟨T10, X10, e10, st10⟩ := own_callSP X9 hx hZ (y := (⟨"java/lang/Math", "max", "(II)I"⟩ : MethodName)) hown (hw _ (List.mem_of_getElem? (i := 37) rfl)) (hw _ (List.mem_of_getElem? (i := 38) rfl)) (hw _ (List.mem_of_getElem? (i := 35) rfl)) (hw _ (List.mem_of_getElem? (i := 39) rfl)) (by decide) (W := 0) (own_c6 l Z a0 hw r3 r4 T5.heap) rfl rfl e9 (by decide) (by decide) (g := (mkF m 53 #[.val (.int md), .val (.int r1), .val (.int r2), .val (.int r3), .val (.int r4), .val (.ref b1), .val (.int (1 : Int32)), .val (.double bt), .second, .val (.int tLo), .val (.int tHi), .val (.int eLo), .unset, .unset, .unset, .unset, .unset, .unset, .unset, .unset] [(.int r4), (.int r3)])) rfl (by rw [hml]; rfl) (argsL := [(.int r3), (.int r4)]) (rest := []) (lenOf own_pd1 rfl) rfl (Nat.le_of_eq rfl) (hb hby at_53) rfl
  refine Gd.go (fun _ w_k => st10 _ w_k) ?_
  show Gd _ _ _ _ (T10.setTop (mkF m 56 #[.val (.int md), .val (.int r1), .val (.int r2), .val (.int r3), .val (.int r4), .val (.ref b1), .val (.int (1 : Int32)), .val (.double bt), .second, .val (.int tLo), .val (.int tHi), .val (.int eLo), .unset, .unset, .unset, .unset, .unset, .unset, .unset, .unset] [(.int (if r3 < r4 then r4 else r3))]))
  generalize (if r3 < r4 then r4 else r3) = eHi
  show Gd _ _ _ _ (T10.setTop (mkF m 56 #[.val (.int md), .val (.int r1), .val (.int r2), .val (.int r3), .val (.int r4), .val (.ref b1), .val (.int (1 : Int32)), .val (.double bt), .second, .val (.int tLo), .val (.int tHi), .val (.int eLo), .unset, .unset, .unset, .unset, .unset, .unset, .unset, .unset] [(.int eHi)]))
  refine Gd.go (fun _ w_k => XS.istore X10.here hx rfl (hb hby at_56) rfl (l' := #[.val (.int md), .val (.int r1), .val (.int r2), .val (.int r3), .val (.int r4), .val (.ref b1), .val (.int (1 : Int32)), .val (.double bt), .second, .val (.int tLo), .val (.int tHi), .val (.int eLo), .val (.int eHi), .unset, .unset, .unset, .unset, .unset, .unset, .unset]) rfl w_k) ?_
  show Gd _ _ _ _ (T10.setTop (mkF m 58 #[.val (.int md), .val (.int r1), .val (.int r2), .val (.int r3), .val (.int r4), .val (.ref b1), .val (.int (1 : Int32)), .val (.double bt), .second, .val (.int tLo), .val (.int tHi), .val (.int eLo), .val (.int eHi), .unset, .unset, .unset, .unset, .unset, .unset, .unset] []))
  refine Gd.go (fun _ w_k => XS.iloadN X10.here hx rfl (hb hby at_58) rfl w_k) ?_
  show Gd _ _ _ _ (T10.setTop (mkF m 59 #[.val (.int md), .val (.int r1), .val (.int r2), .val (.int r3), .val (.int r4), .val (.ref b1), .val (.int (1 : Int32)), .val (.double bt), .second, .val (.int tLo), .val (.int tHi), .val (.int eLo), .val (.int eHi), .unset, .unset, .unset, .unset, .unset, .unset, .unset] [(.int md)]))
  refine Gd.go (fun _ w_k => XS.iconst X10.here hx rfl (hb hby at_59) w_k) ?_
  show Gd _ _ _ _ (T10.setTop (mkF m 60 #[.val (.int md), .val (.int r1), .val (.int r2), .val (.int r3), .val (.int r4), .val (.ref b1), .val (.int (1 : Int32)), .val (.double bt), .second, .val (.int tLo), .val (.int tHi), .val (.int eLo), .val (.int eHi), .unset, .unset, .unset, .unset, .unset, .unset, .unset] [(.int (1 : Int32)), (.int md)]))
  refine Gd.go (fun _ w_k => XS.iand X10.here hx rfl (hb hby at_60) rfl w_k) ?_
  show Gd _ _ _ _ (T10.setTop (mkF m 61 #[.val (.int md), .val (.int r1), .val (.int r2), .val (.int r3), .val (.int r4), .val (.ref b1), .val (.int (1 : Int32)), .val (.double bt), .second, .val (.int tLo), .val (.int tHi), .val (.int eLo), .val (.int eHi), .unset, .unset, .unset, .unset, .unset, .unset, .unset] [(.int (md &&& (1 : Int32)))]))
  refine Gd.viaA (A := fun _ : Int32 => True) (S' := fun y => T10.setTop (mkF m 69 #[.val (.int md), .val (.int r1), .val (.int r2), .val (.int r3), .val (.int r4), .val (.ref b1), .val (.int (1 : Int32)), .val (.double bt), .second, .val (.int tLo), .val (.int tHi), .val (.int eLo), .val (.int eHi), .unset, .unset, .unset, .unset, .unset, .unset, .unset] [(.int y)])) (fun J => ?_) (fun y hy => ?_)
  · by_cases hc11 : (md &&& (1 : Int32)) = (0 : Int32)
    · refine Gd.go (fun _ w_k => XS.ifYes X10.here hx rfl (pc0 := 61) (pc' := 68) rfl (hb hby at_61) rfl ((if0 _ _).trans (teq hc11).1) (by decide) (by decide) w_k) ?_
      show Gd _ _ _ _ (T10.setTop (mkF m 68 #[.val (.int md), .val (.int r1), .val (.int r2), .val (.int r3), .val (.int r4), .val (.ref b1), .val (.int (1 : Int32)), .val (.double bt), .second, .val (.int tLo), .val (.int tHi), .val (.int eLo), .val (.int eHi), .unset, .unset, .unset, .unset, .unset, .unset, .unset] []))
      refine Gd.go (fun _ w_k => XS.iconst X10.here hx rfl (hb hby at_68) w_k) ?_
      show Gd _ _ _ _ (T10.setTop (mkF m 69 #[.val (.int md), .val (.int r1), .val (.int r2), .val (.int r3), .val (.int r4), .val (.ref b1), .val (.int (1 : Int32)), .val (.double bt), .second, .val (.int tLo), .val (.int tHi), .val (.int eLo), .val (.int eHi), .unset, .unset, .unset, .unset, .unset, .unset, .unset] [(.int (0 : Int32))]))
      exact J _ trivial
    · refine Gd.go (fun _ w_k => XS.ifNo X10.here hx rfl (hb hby at_61) rfl ((if0 _ _).trans (feq hc11).1) w_k) ?_
      show Gd _ _ _ _ (T10.setTop (mkF m 64 #[.val (.int md), .val (.int r1), .val (.int r2), .val (.int r3), .val (.int r4), .val (.ref b1), .val (.int (1 : Int32)), .val (.double bt), .second, .val (.int tLo), .val (.int tHi), .val (.int eLo), .val (.int eHi), .unset, .unset, .unset, .unset, .unset, .unset, .unset] []))
      refine Gd.go (fun _ w_k => XS.iconst X10.here hx rfl (hb hby at_64) w_k) ?_
      show Gd _ _ _ _ (T10.setTop (mkF m 65 #[.val (.int md), .val (.int r1), .val (.int r2), .val (.int r3), .val (.int r4), .val (.ref b1), .val (.int (1 : Int32)), .val (.double bt), .second, .val (.int tLo), .val (.int tHi), .val (.int eLo), .val (.int eHi), .unset, .unset, .unset, .unset, .unset, .unset, .unset] [(.int (1 : Int32))]))
      refine Gd.go (fun _ w_k => XS.goto X10.here hx rfl (pc0 := 65) (pc' := 69) rfl (hb hby at_65) (by decide) (by decide) w_k) ?_
      show Gd _ _ _ _ (T10.setTop (mkF m 69 #[.val (.int md), .val (.int r1), .val (.int r2), .val (.int r3), .val (.int r4), .val (.ref b1), .val (.int (1 : Int32)), .val (.double bt), .second, .val (.int tLo), .val (.int tHi), .val (.int eLo), .val (.int eHi), .unset, .unset, .unset, .unset, .unset, .unset, .unset] [(.int (1 : Int32))]))
      exact J _ trivial
  obtain ⟨o1, eyo1⟩ : ∃ q, q = y := ⟨_, rfl⟩
  rw [← eyo1]
  show Gd _ _ _ _ (T10.setTop (mkF m 69 #[.val (.int md), .val (.int r1), .val (.int r2), .val (.int r3), .val (.int r4), .val (.ref b1), .val (.int (1 : Int32)), .val (.double bt), .second, .val (.int tLo), .val (.int tHi), .val (.int eLo), .val (.int eHi), .unset, .unset, .unset, .unset, .unset, .unset, .unset] [(.int o1)]))
  refine Gd.go (fun _ w_k => XS.istore X10.here hx rfl (hb hby at_69) rfl (l' := #[.val (.int md), .val (.int r1), .val (.int r2), .val (.int r3), .val (.int r4), .val (.ref b1), .val (.int (1 : Int32)), .val (.double bt), .second, .val (.int tLo), .val (.int tHi), .val (.int eLo), .val (.int eHi), .val (.int o1), .unset, .unset, .unset, .unset, .unset, .unset]) rfl w_k) ?_
  show Gd _ _ _ _ (T10.setTop (mkF m 71 #[.val (.int md), .val (.int r1), .val (.int r2), .val (.int r3), .val (.int r4), .val (.ref b1), .val (.int (1 : Int32)), .val (.double bt), .second, .val (.int tLo), .val (.int tHi), .val (.int eLo), .val (.int eHi), .val (.int o1), .unset, .unset, .unset, .unset, .unset, .unset] []))
  refine Gd.go (fun _ w_k => XS.iloadN X10.here hx rfl (hb hby at_71) rfl w_k) ?_
  show Gd _ _ _ _ (T10.setTop (mkF m 72 #[.val (.int md), .val (.int r1), .val (.int r2), .val (.int r3), .val (.int r4), .val (.ref b1), .val (.int (1 : Int32)), .val (.double bt), .second, .val (.int tLo), .val (.int tHi), .val (.int eLo), .val (.int eHi), .val (.int o1), .unset, .unset, .unset, .unset, .unset, .unset] [(.int md)]))
  refine Gd.go (fun _ w_k => XS.iconst X10.here hx rfl (hb hby at_72) w_k) ?_
  show Gd _ _ _ _ (T10.setTop (mkF m 73 #[.val (.int md), .val (.int r1), .val (.int r2), .val (.int r3), .val (.int r4), .val (.ref b1), .val (.int (1 : Int32)), .val (.double bt), .second, .val (.int tLo), .val (.int tHi), .val (.int eLo), .val (.int eHi), .val (.int o1), .unset, .unset, .unset, .unset, .unset, .unset] [(.int (2 : Int32)), (.int md)]))
  refine Gd.go (fun _ w_k => XS.iand X10.here hx rfl (hb hby at_73) rfl w_k) ?_
  show Gd _ _ _ _ (T10.setTop (mkF m 74 #[.val (.int md), .val (.int r1), .val (.int r2), .val (.int r3), .val (.int r4), .val (.ref b1), .val (.int (1 : Int32)), .val (.double bt), .second, .val (.int tLo), .val (.int tHi), .val (.int eLo), .val (.int eHi), .val (.int o1), .unset, .unset, .unset, .unset, .unset, .unset] [(.int (md &&& (2 : Int32)))]))
  refine Gd.viaA (A := fun _ : Int32 => True) (S' := fun y => T10.setTop (mkF m 82 #[.val (.int md), .val (.int r1), .val (.int r2), .val (.int r3), .val (.int r4), .val (.ref b1), .val (.int (1 : Int32)), .val (.double bt), .second, .val (.int tLo), .val (.int tHi), .val (.int eLo), .val (.int eHi), .val (.int o1), .unset, .unset, .unset, .unset, .unset, .unset] [(.int y)])) (fun J => ?_) (fun y hy => ?_)
  · by_cases hc12 : (md &&& (2 : Int32)) = (0 : Int32)
    · refine Gd.go (fun _ w_k => XS.ifYes X10.here hx rfl (pc0 := 74) (pc' := 81) rfl (hb hby at_74) rfl ((if0 _ _).trans (teq hc12).1) (by decide) (by decide) w_k) ?_
      show Gd _ _ _ _ (T10.setTop (mkF m 81 #[.val (.int md), .val (.int r1), .val (.int r2), .val (.int r3), .val (.int r4), .val (.ref b1), .val (.int (1 : Int32)), .val (.double bt), .second, .val (.int tLo), .val (.int tHi), .val (.int eLo), .val (.int eHi), .val (.int o1), .unset, .unset, .unset, .unset, .unset, .unset] []))
      refine Gd.go (fun _ w_k => XS.iconst X10.here hx rfl (hb hby at_81) w_k) ?_
      show Gd _ _ _ _ (T10.setTop (mkF m 82 #[.val (.int md), .val (.int r1), .val (.int r2), .val (.int r3), .val (.int r4), .val (.ref b1), .val (.int (1 : Int32)), .val (.double bt), .second, .val (.int tLo), .val (.int tHi), .val (.int eLo), .val (.int eHi), .val (.int o1), .unset, .unset, .unset, .unset, .unset, .unset] [(.int (0 : Int32))]))
      exact J _ trivial
    · refine Gd.go (fun _ w_k => XS.ifNo X10.here hx rfl (hb hby at_74) rfl ((if0 _ _).trans (feq hc12).1) w_k) ?_
      show Gd _ _ _ _ (T10.setTop (mkF m 77 #[.val (.int md), .val (.int r1), .val (.int r2), .val (.int r3), .val (.int r4), .val (.ref b1), .val (.int (1 : Int32)), .val (.double bt), .second, .val (.int tLo), .val (.int tHi), .val (.int eLo), .val (.int eHi), .val (.int o1), .unset, .unset, .unset, .unset, .unset, .unset] []))
      refine Gd.go (fun _ w_k => XS.iconst X10.here hx rfl (hb hby at_77) w_k) ?_
      show Gd _ _ _ _ (T10.setTop (mkF m 78 #[.val (.int md), .val (.int r1), .val (.int r2), .val (.int r3), .val (.int r4), .val (.ref b1), .val (.int (1 : Int32)), .val (.double bt), .second, .val (.int tLo), .val (.int tHi), .val (.int eLo), .val (.int eHi), .val (.int o1), .unset, .unset, .unset, .unset, .unset, .unset] [(.int (1 : Int32))]))
      refine Gd.go (fun _ w_k => XS.goto X10.here hx rfl (pc0 := 78) (pc' := 82) rfl (hb hby at_78) (by decide) (by decide) w_k) ?_
      show Gd _ _ _ _ (T10.setTop (mkF m 82 #[.val (.int md), .val (.int r1), .val (.int r2), .val (.int r3), .val (.int r4), .val (.ref b1), .val (.int (1 : Int32)), .val (.double bt), .second, .val (.int tLo), .val (.int tHi), .val (.int eLo), .val (.int eHi), .val (.int o1), .unset, .unset, .unset, .unset, .unset, .unset] [(.int (1 : Int32))]))
      exact J _ trivial
  obtain ⟨o2, eyo2⟩ : ∃ q, q = y := ⟨_, rfl⟩
  rw [← eyo2]
  show Gd _ _ _ _ (T10.setTop (mkF m 82 #[.val (.int md), .val (.int r1), .val (.int r2), .val (.int r3), .val (.int r4), .val (.ref b1), .val (.int (1 : Int32)), .val (.double bt), .second, .val (.int tLo), .val (.int tHi), .val (.int eLo), .val (.int eHi), .val (.int o1), .unset, .unset, .unset, .unset, .unset, .unset] [(.int o2)]))
  refine Gd.go (fun _ w_k => XS.istore X10.here hx rfl (hb hby at_82) rfl (l' := #[.val (.int md), .val (.int r1), .val (.int r2), .val (.int r3), .val (.int r4), .val (.ref b1), .val (.int (1 : Int32)), .val (.double bt), .second, .val (.int tLo), .val (.int tHi), .val (.int eLo), .val (.int eHi), .val (.int o1), .val (.int o2), .unset, .unset, .unset, .unset, .unset]) rfl w_k) ?_
  show Gd _ _ _ _ (T10.setTop (mkF m 84 #[.val (.int md), .val (.int r1), .val (.int r2), .val (.int r3), .val (.int r4), .val (.ref b1), .val (.int (1 : Int32)), .val (.double bt), .second, .val (.int tLo), .val (.int tHi), .val (.int eLo), .val (.int eHi), .val (.int o1), .val (.int o2), .unset, .unset, .unset, .unset, .unset] []))
  refine Gd.go (fun _ w_k => XS.iloadN X10.here hx rfl (hb hby at_84) rfl w_k) ?_
  show Gd _ _ _ _ (T10.setTop (mkF m 85 #[.val (.int md), .val (.int r1), .val (.int r2), .val (.int r3), .val (.int r4), .val (.ref b1), .val (.int (1 : Int32)), .val (.double bt), .second, .val (.int tLo), .val (.int tHi), .val (.int eLo), .val (.int eHi), .val (.int o1), .val (.int o2), .unset, .unset, .unset, .unset, .unset] [(.int md)]))
  refine Gd.go (fun _ w_k => XS.iconst X10.here hx rfl (hb hby at_85) w_k) ?_
  show Gd _ _ _ _ (T10.setTop (mkF m 86 #[.val (.int md), .val (.int r1), .val (.int r2), .val (.int r3), .val (.int r4), .val (.ref b1), .val (.int (1 : Int32)), .val (.double bt), .second, .val (.int tLo), .val (.int tHi), .val (.int eLo), .val (.int eHi), .val (.int o1), .val (.int o2), .unset, .unset, .unset, .unset, .unset] [(.int (4 : Int32)), (.int md)]))
  refine Gd.go (fun _ w_k => XS.iand X10.here hx rfl (hb hby at_86) rfl w_k) ?_
  show Gd _ _ _ _ (T10.setTop (mkF m 87 #[.val (.int md), .val (.int r1), .val (.int r2), .val (.int r3), .val (.int r4), .val (.ref b1), .val (.int (1 : Int32)), .val (.double bt), .second, .val (.int tLo), .val (.int tHi), .val (.int eLo), .val (.int eHi), .val (.int o1), .val (.int o2), .unset, .unset, .unset, .unset, .unset] [(.int (md &&& (4 : Int32)))]))
  refine Gd.viaA (A := fun _ : Int32 => True) (S' := fun y => T10.setTop (mkF m 95 #[.val (.int md), .val (.int r1), .val (.int r2), .val (.int r3), .val (.int r4), .val (.ref b1), .val (.int (1 : Int32)), .val (.double bt), .second, .val (.int tLo), .val (.int tHi), .val (.int eLo), .val (.int eHi), .val (.int o1), .val (.int o2), .unset, .unset, .unset, .unset, .unset] [(.int y)])) (fun J => ?_) (fun y hy => ?_)
  · by_cases hc13 : (md &&& (4 : Int32)) = (0 : Int32)
    · refine Gd.go (fun _ w_k => XS.ifYes X10.here hx rfl (pc0 := 87) (pc' := 94) rfl (hb hby at_87) rfl ((if0 _ _).trans (teq hc13).1) (by decide) (by decide) w_k) ?_
      show Gd _ _ _ _ (T10.setTop (mkF m 94 #[.val (.int md), .val (.int r1), .val (.int r2), .val (.int r3), .val (.int r4), .val (.ref b1), .val (.int (1 : Int32)), .val (.double bt), .second, .val (.int tLo), .val (.int tHi), .val (.int eLo), .val (.int eHi), .val (.int o1), .val (.int o2), .unset, .unset, .unset, .unset, .unset] []))
      refine Gd.go (fun _ w_k => XS.iconst X10.here hx rfl (hb hby at_94) w_k) ?_
      show Gd _ _ _ _ (T10.setTop (mkF m 95 #[.val (.int md), .val (.int r1), .val (.int r2), .val (.int r3), .val (.int r4), .val (.ref b1), .val (.int (1 : Int32)), .val (.double bt), .second, .val (.int tLo), .val (.int tHi), .val (.int eLo), .val (.int eHi), .val (.int o1), .val (.int o2), .unset, .unset, .unset, .unset, .unset] [(.int (0 : Int32))]))
      exact J _ trivial
    · refine Gd.go (fun _ w_k => XS.ifNo X10.here hx rfl (hb hby at_87) rfl ((if0 _ _).trans (feq hc13).1) w_k) ?_
      show Gd _ _ _ _ (T10.setTop (mkF m 90 #[.val (.int md), .val (.int r1), .val (.int r2), .val (.int r3), .val (.int r4), .val (.ref b1), .val (.int (1 : Int32)), .val (.double bt), .second, .val (.int tLo), .val (.int tHi), .val (.int eLo), .val (.int eHi), .val (.int o1), .val (.int o2), .unset, .unset, .unset, .unset, .unset] []))
      refine Gd.go (fun _ w_k => XS.iconst X10.here hx rfl (hb hby at_90) w_k) ?_
      show Gd _ _ _ _ (T10.setTop (mkF m 91 #[.val (.int md), .val (.int r1), .val (.int r2), .val (.int r3), .val (.int r4), .val (.ref b1), .val (.int (1 : Int32)), .val (.double bt), .second, .val (.int tLo), .val (.int tHi), .val (.int eLo), .val (.int eHi), .val (.int o1), .val (.int o2), .unset, .unset, .unset, .unset, .unset] [(.int (1 : Int32))]))
      refine Gd.go (fun _ w_k => XS.goto X10.here hx rfl (pc0 := 91) (pc' := 95) rfl (hb hby at_91) (by decide) (by decide) w_k) ?_
      show Gd _ _ _ _ (T10.setTop (mkF m 95 #[.val (.int md), .val (.int r1), .val (.int r2), .val (.int r3), .val (.int r4), .val (.ref b1), .val (.int (1 : Int32)), .val (.double bt), .second, .val (.int tLo), .val (.int tHi), .val (.int eLo), .val (.int eHi), .val (.int o1), .val (.int o2), .unset, .unset, .unset, .unset, .unset] [(.int (1 : Int32))]))
      exact J _ trivial
  obtain ⟨o3, eyo3⟩ : ∃ q, q = y := ⟨_, rfl⟩
  rw [← eyo3]
  show Gd _ _ _ _ (T10.setTop (mkF m 95 #[.val (.int md), .val (.int r1), .val (.int r2), .val (.int r3), .val (.int r4), .val (.ref b1), .val (.int (1 : Int32)), .val (.double bt), .second, .val (.int tLo), .val (.int tHi), .val (.int eLo), .val (.int eHi), .val (.int o1), .val (.int o2), .unset, .unset, .unset, .unset, .unset] [(.int o3)]))
  refine Gd.go (fun _ w_k => XS.istore X10.here hx rfl (hb hby at_95) rfl (l' := #[.val (.int md), .val (.int r1), .val (.int r2), .val (.int r3), .val (.int r4), .val (.ref b1), .val (.int (1 : Int32)), .val (.double bt), .second, .val (.int tLo), .val (.int tHi), .val (.int eLo), .val (.int eHi), .val (.int o1), .val (.int o2), .val (.int o3), .unset, .unset, .unset, .unset]) rfl w_k) ?_
  show Gd _ _ _ _ (T10.setTop (mkF m 97 #[.val (.int md), .val (.int r1), .val (.int r2), .val (.int r3), .val (.int r4), .val (.ref b1), .val (.int (1 : Int32)), .val (.double bt), .second, .val (.int tLo), .val (.int tHi), .val (.int eLo), .val (.int eHi), .val (.int o1), .val (.int o2), .val (.int o3), .unset, .unset, .unset, .unset] []))
  refine Gd.go (fun _ w_k => XS.iloadN X10.here hx rfl (hb hby at_97) rfl w_k) ?_
  show Gd _ _ _ _ (T10.setTop (mkF m 98 #[.val (.int md), .val (.int r1), .val (.int r2), .val (.int r3), .val (.int r4), .val (.ref b1), .val (.int (1 : Int32)), .val (.double bt), .second, .val (.int tLo), .val (.int tHi), .val (.int eLo), .val (.int eHi), .val (.int o1), .val (.int o2), .val (.int o3), .unset, .unset, .unset, .unset] [(.int md)]))
  refine Gd.go (fun _ w_k => XS.bipush X10.here hx rfl (hb hby at_98) w_k) ?_
  show Gd _ _ _ _ (T10.setTop (mkF m 100 #[.val (.int md), .val (.int r1), .val (.int r2), .val (.int r3), .val (.int r4), .val (.ref b1), .val (.int (1 : Int32)), .val (.double bt), .second, .val (.int tLo), .val (.int tHi), .val (.int eLo), .val (.int eHi), .val (.int o1), .val (.int o2), .val (.int o3), .unset, .unset, .unset, .unset] [(.int (8 : Int32)), (.int md)]))
  refine Gd.go (fun _ w_k => XS.iand X10.here hx rfl (hb hby at_100) rfl w_k) ?_
  show Gd _ _ _ _ (T10.setTop (mkF m 101 #[.val (.int md), .val (.int r1), .val (.int r2), .val (.int r3), .val (.int r4), .val (.ref b1), .val (.int (1 : Int32)), .val (.double bt), .second, .val (.int tLo), .val (.int tHi), .val (.int eLo), .val (.int eHi), .val (.int o1), .val (.int o2), .val (.int o3), .unset, .unset, .unset, .unset] [(.int (md &&& (8 : Int32)))]))
  refine Gd.viaA (A := fun _ : Int32 => True) (S' := fun y => T10.setTop (mkF m 109 #[.val (.int md), .val (.int r1), .val (.int r2), .val (.int r3), .val (.int r4), .val (.ref b1), .val (.int (1 : Int32)), .val (.double bt), .second, .val (.int tLo), .val (.int tHi), .val (.int eLo), .val (.int eHi), .val (.int o1), .val (.int o2), .val (.int o3), .unset, .unset, .unset, .unset] [(.int y)])) (fun J => ?_) (fun y hy => ?_)
  · by_cases hc14 : (md &&& (8 : Int32)) = (0 : Int32)
    · refine Gd.go (fun _ w_k => XS.ifYes X10.here hx rfl (pc0 := 101) (pc' := 108) rfl (hb hby at_101) rfl ((if0 _ _).trans (teq hc14).1) (by decide) (by decide) w_k) ?_
      show Gd _ _ _ _ (T10.setTop (mkF m 108 #[.val (.int md), .val (.int r1), .val (.int r2), .val (.int r3), .val (.int r4), .val (.ref b1), .val (.int (1 : Int32)), .val (.double bt), .second, .val (.int tLo), .val (.int tHi), .val (.int eLo), .val (.int eHi), .val (.int o1), .val (.int o2), .val (.int o3), .unset, .unset, .unset, .unset] []))
      refine Gd.go (fun _ w_k => XS.iconst X10.here hx rfl (hb hby at_108) w_k) ?_
      show Gd _ _ _ _ (T10.setTop (mkF m 109 #[.val (.int md), .val (.int r1), .val (.int r2), .val (.int r3), .val (.int r4), .val (.ref b1), .val (.int (1 : Int32)), .val (.double bt), .second, .val (.int tLo), .val (.int tHi), .val (.int eLo), .val (.int eHi), .val (.int o1), .val (.int o2), .val (.int o3), .unset, .unset, .unset, .unset] [(.int (0 : Int32))]))
      exact J _ trivial
    · refine Gd.go (fun _ w_k => XS.ifNo X10.here hx rfl (hb hby at_101) rfl ((if0 _ _).trans (feq hc14).1) w_k) ?_
      show Gd _ _ _ _ (T10.setTop (mkF m 104 #[.val (.int md), .val (.int r1), .val (.int r2), .val (.int r3), .val (.int r4), .val (.ref b1), .val (.int (1 : Int32)), .val (.double bt), .second, .val (.int tLo), .val (.int tHi), .val (.int eLo), .val (.int eHi), .val (.int o1), .val (.int o2), .val (.int o3), .unset, .unset, .unset, .unset] []))
      refine Gd.go (fun _ w_k => XS.iconst X10.here hx rfl (hb hby at_104) w_k) ?_
      show Gd _ _ _ _ (T10.setTop (mkF m 105 #[.val (.int md), .val (.int r1), .val (.int r2), .val (.int r3), .val (.int r4), .val (.ref b1), .val (.int (1 : Int32)), .val (.double bt), .second, .val (.int tLo), .val (.int tHi), .val (.int eLo), .val (.int eHi), .val (.int o1), .val (.int o2), .val (.int o3), .unset, .unset, .unset, .unset] [(.int (1 : Int32))]))
      refine Gd.go (fun _ w_k => XS.goto X10.here hx rfl (pc0 := 105) (pc' := 109) rfl (hb hby at_105) (by decide) (by decide) w_k) ?_
      show Gd _ _ _ _ (T10.setTop (mkF m 109 #[.val (.int md), .val (.int r1), .val (.int r2), .val (.int r3), .val (.int r4), .val (.ref b1), .val (.int (1 : Int32)), .val (.double bt), .second, .val (.int tLo), .val (.int tHi), .val (.int eLo), .val (.int eHi), .val (.int o1), .val (.int o2), .val (.int o3), .unset, .unset, .unset, .unset] [(.int (1 : Int32))]))
      exact J _ trivial
  obtain ⟨o4, eyo4⟩ : ∃ q, q = y := ⟨_, rfl⟩
  rw [← eyo4]
  show Gd _ _ _ _ (T10.setTop (mkF m 109 #[.val (.int md), .val (.int r1), .val (.int r2), .val (.int r3), .val (.int r4), .val (.ref b1), .val (.int (1 : Int32)), .val (.double bt), .second, .val (.int tLo), .val (.int tHi), .val (.int eLo), .val (.int eHi), .val (.int o1), .val (.int o2), .val (.int o3), .unset, .unset, .unset, .unset] [(.int o4)]))
  refine Gd.go (fun _ w_k => XS.istore X10.here hx rfl (hb hby at_109) rfl (l' := #[.val (.int md), .val (.int r1), .val (.int r2), .val (.int r3), .val (.int r4), .val (.ref b1), .val (.int (1 : Int32)), .val (.double bt), .second, .val (.int tLo), .val (.int tHi), .val (.int eLo), .val (.int eHi), .val (.int o1), .val (.int o2), .val (.int o3), .val (.int o4), .unset, .unset, .unset]) rfl w_k) ?_
  show Gd _ _ _ _ (T10.setTop (mkF m 111 #[.val (.int md), .val (.int r1), .val (.int r2), .val (.int r3), .val (.int r4), .val (.ref b1), .val (.int (1 : Int32)), .val (.double bt), .second, .val (.int tLo), .val (.int tHi), .val (.int eLo), .val (.int eHi), .val (.int o1), .val (.int o2), .val (.int o3), .val (.int o4), .unset, .unset, .unset] []))
  refine Gd.go (fun _ w_k => XS.iconst X10.here hx rfl (hb hby at_111) w_k) ?_
  show Gd _ _ _ _ (T10.setTop (mkF m 112 #[.val (.int md), .val (.int r1), .val (.int r2), .val (.int r3), .val (.int r4), .val (.ref b1), .val (.int (1 : Int32)), .val (.double bt), .second, .val (.int tLo), .val (.int tHi), .val (.int eLo), .val (.int eHi), .val (.int o1), .val (.int o2), .val (.int o3), .val (.int o4), .unset, .unset, .unset] [(.int (0 : Int32))]))
  refine Gd.go (fun _ w_k => XS.istore X10.here hx rfl (hb hby at_112) rfl (l' := #[.val (.int md), .val (.int r1), .val (.int r2), .val (.int r3), .val (.int r4), .val (.ref b1), .val (.int (1 : Int32)), .val (.double bt), .second, .val (.int tLo), .val (.int tHi), .val (.int eLo), .val (.int eHi), .val (.int o1), .val (.int o2), .val (.int o3), .val (.int o4), .val (.int (0 : Int32)), .unset, .unset]) rfl w_k) ?_
  show Gd _ _ _ _ (T10.setTop (mkF m 114 #[.val (.int md), .val (.int r1), .val (.int r2), .val (.int r3), .val (.int r4), .val (.ref b1), .val (.int (1 : Int32)), .val (.double bt), .second, .val (.int tLo), .val (.int tHi), .val (.int eLo), .val (.int eHi), .val (.int o1), .val (.int o2), .val (.int o3), .val (.int o4), .val (.int (0 : Int32)), .unset, .unset] []))
  refine Gd.go (fun _ w_k => XS.iconst X10.here hx rfl (hb hby at_114) w_k) ?_
  show Gd _ _ _ _ (T10.setTop (mkF m 115 #[.val (.int md), .val (.int r1), .val (.int r2), .val (.int r3), .val (.int r4), .val (.ref b1), .val (.int (1 : Int32)), .val (.double bt), .second, .val (.int tLo), .val (.int tHi), .val (.int eLo), .val (.int eHi), .val (.int o1), .val (.int o2), .val (.int o3), .val (.int o4), .val (.int (0 : Int32)), .unset, .unset] [(.int (0 : Int32))]))
  refine Gd.go (fun _ w_k => XS.istore X10.here hx rfl (hb hby at_115) rfl (l' := #[.val (.int md), .val (.int r1), .val (.int r2), .val (.int r3), .val (.int r4), .val (.ref b1), .val (.int (1 : Int32)), .val (.double bt), .second, .val (.int tLo), .val (.int tHi), .val (.int eLo), .val (.int eHi), .val (.int o1), .val (.int o2), .val (.int o3), .val (.int o4), .val (.int (0 : Int32)), .val (.int (0 : Int32)), .unset]) rfl w_k) ?_
  show Gd _ _ _ _ (T10.setTop (mkF m 117 #[.val (.int md), .val (.int r1), .val (.int r2), .val (.int r3), .val (.int r4), .val (.ref b1), .val (.int (1 : Int32)), .val (.double bt), .second, .val (.int tLo), .val (.int tHi), .val (.int eLo), .val (.int eHi), .val (.int o1), .val (.int o2), .val (.int o3), .val (.int o4), .val (.int (0 : Int32)), .val (.int (0 : Int32)), .unset] []))
  rw [← e10] at H0 Zh
  refine Gd.viaA (A := fun y : State × List Loc × Nat × (Nat → Int32) => Stand pg l ev room_1 s_ m #[(.int md), (.int r1), (.int r2), (.int r3), (.int r4)] bl mt cd y.1 y.2.1 9 12 ∧ own_S Z y.1.heap b1 n0 y.2.2.1 y.2.2.2 0 (fun _ => 0) ∧ Fr n0 y.2.1 ∧ n0 ≤ y.1.heap.size ∧ ((o1 = 0 ∧ y.2.2.1 = 0) ∨ (¬ o1 = 0 ∧ y.2.2.1 = 1 ∧ y.2.2.2 0 = tLo))) (S' := fun y => y.1.setTop (mkF m 134 #[.val (.int md), .val (.int r1), .val (.int r2), .val (.int r3), .val (.int r4), .val (.ref b1), .val (.int (1 : Int32)), .val (.double bt), .second, .val (.int tLo), .val (.int tHi), .val (.int eLo), .val (.int eHi), .val (.int o1), .val (.int o2), .val (.int o3), .val (.int o4), .val (.int (Int32.ofNat y.2.2.1)), .val (.int (0 : Int32)), .unset] [])) (fun J => ?_) (fun y hy => ?_)
  · refine Gd.go (fun _ w_k => XS.iload X10.here hx rfl (hb hby at_117) rfl w_k) ?_
    show Gd _ _ _ _ (T10.setTop (mkF m 119 #[.val (.int md), .val (.int r1), .val (.int r2), .val (.int r3), .val (.int r4), .val (.ref b1), .val (.int (1 : Int32)), .val (.double bt), .second, .val (.int tLo), .val (.int tHi), .val (.int eLo), .val (.int eHi), .val (.int o1), .val (.int o2), .val (.int o3), .val (.int o4), .val (.int (0 : Int32)), .val (.int (0 : Int32)), .unset] [(.int o1)]))
    by_cases hc15 : o1 = (0 : Int32)
    · refine Gd.go (fun _ w_k => XS.ifYes X10.here hx rfl (pc0 := 119) (pc' := 134) rfl (hb hby at_119) rfl ((if0 _ _).trans (teq hc15).1) (by decide) (by decide) w_k) ?_
      show Gd _ _ _ _ (T10.setTop (mkF m 134 #[.val (.int md), .val (.int r1), .val (.int r2), .val (.int r3), .val (.int r4), .val (.ref b1), .val (.int (1 : Int32)), .val (.double bt), .second, .val (.int tLo), .val (.int tHi), .val (.int eLo), .val (.int eHi), .val (.int o1), .val (.int o2), .val (.int o3), .val (.int o4), .val (.int (0 : Int32)), .val (.int (0 : Int32)), .unset] []))
      exact J ⟨T10, _, 0, (fun _ => 0)⟩ ⟨(X10.more (by decide) (by decide)), H0, NN0, Zh, Or.inl ⟨hc15, rfl⟩⟩
    · refine Gd.go (fun _ w_k => XS.ifNo X10.here hx rfl (hb hby at_119) rfl ((if0 _ _).trans (feq hc15).1) w_k) ?_
      show Gd _ _ _ _ (T10.setTop (mkF m 122 #[.val (.int md), .val (.int r1), .val (.int r2), .val (.int r3), .val (.int r4), .val (.ref b1), .val (.int (1 : Int32)), .val (.double bt), .second, .val (.int tLo), .val (.int tHi), .val (.int eLo), .val (.int eHi), .val (.int o1), .val (.int o2), .val (.int o3), .val (.int o4), .val (.int (0 : Int32)), .val (.int (0 : Int32)), .unset] []))
      refine Gd.go (fun _ w_k => XS.aload X10.here hx rfl (hb hby at_122) rfl rfl w_k) ?_
      show Gd _ _ _ _ (T10.setTop (mkF m 124 #[.val (.int md), .val (.int r1), .val (.int r2), .val (.int r3), .val (.int r4), .val (.ref b1), .val (.int (1 : Int32)), .val (.double bt), .second, .val (.int tLo), .val (.int tHi), .val (.int eLo), .val (.int eHi), .val (.int o1), .val (.int o2), .val (.int o3), .val (.int o4), .val (.int (0 : Int32)), .val (.int (0 : Int32)), .unset] [(.ref b1)]))
      refine Gd.go (fun _ w_k => XS.iload X10.here hx rfl (hb hby at_124) rfl w_k) ?_
      show Gd _ _ _ _ (T10.setTop (mkF m 126 #[.val (.int md), .val (.int r1), .val (.int r2), .val (.int r3), .val (.int r4), .val (.ref b1), .val (.int (1 : Int32)), .val (.double bt), .second, .val (.int tLo), .val (.int tHi), .val (.int eLo), .val (.int eHi), .val (.int o1), .val (.int o2), .val (.int o3), .val (.int o4), .val (.int (0 : Int32)), .val (.int (0 : Int32)), .unset] [(.int tLo), (.ref b1)]))
      refine Gd.go (fun _ w_k => XS.dload X10.here hx rfl (hb hby at_126) rfl w_k) ?_
      show Gd _ _ _ _ (T10.setTop (mkF m 128 #[.val (.int md), .val (.int r1), .val (.int r2), .val (.int r3), .val (.int r4), .val (.ref b1), .val (.int (1 : Int32)), .val (.double bt), .second, .val (.int tLo), .val (.int tHi), .val (.int eLo), .val (.int eHi), .val (.int o1), .val (.int o2), .val (.int o3), .val (.int o4), .val (.int (0 : Int32)), .val (.int (0 : Int32)), .unset] [(.double bt), (.int tLo), (.ref b1)]))
      obtain ⟨v17, T17, L17, X17, hQ17, st17⟩ := own_callV X10 hx hZ (C := "org/eventropy/core/SmallProbabilities") (y := (⟨"org/eventropy/core/SmallProbabilities", "addTransition", "(ID)V"⟩ : MethodName)) hown (hw _ (List.mem_of_getElem? (i := 40) rfl)) (hw _ (List.mem_of_getElem? (i := 41) rfl)) (hw _ (List.mem_of_getElem? (i := 43) rfl)) (hw _ (List.mem_of_getElem? (i := 42) rfl)) (hw _ (List.mem_of_getElem? (i := 2) rfl)) (hw _ (List.mem_of_getElem? (i := 44) rfl)) (by decide) H0.exa (W := 0) (own_c7 l Z a0 hw b1 tLo bt 0 0 (fun _ => 0) (fun _ => 0) (Or.inl rfl) T10.heap n0 Zh H0) rfl rfl rfl (by decide) (by decide) (g := (mkF m 128 #[.val (.int md), .val (.int r1), .val (.int r2), .val (.int r3), .val (.int r4), .val (.ref b1), .val (.int (1 : Int32)), .val (.double bt), .second, .val (.int tLo), .val (.int tHi), .val (.int eLo), .val (.int eHi), .val (.int o1), .val (.int o2), .val (.int o3), .val (.int o4), .val (.int (0 : Int32)), .val (.int (0 : Int32)), .unset] [(.double bt), (.int tLo), (.ref b1)])) rfl (by rw [hml]; rfl) (argsL := [(.int tLo), (.double bt)]) (rest := []) (lenOf own_pd6 rfl) rfl (Nat.le_of_eq rfl) (hb hby at_128) rfl (by decide) (by decide)
      obtain ⟨rfl, ⟨fd16, Hd16, qd16⟩, Zd16, Nd16⟩ := hQ17
      refine Gd.go (fun _ w_k => st17 _ w_k) ?_
      show Gd _ _ _ _ (T17.setTop (mkF m 131 #[.val (.int md), .val (.int r1), .val (.int r2), .val (.int r3), .val (.int r4), .val (.ref b1), .val (.int (1 : Int32)), .val (.double bt), .second, .val (.int tLo), .val (.int tHi), .val (.int eLo), .val (.int eHi), .val (.int o1), .val (.int o2), .val (.int o3), .val (.int o4), .val (.int (0 : Int32)), .val (.int (0 : Int32)), .unset] []))
      have NNd16 := Fr.app NN0 Nd16
      refine Gd.go (fun _ w_k => XS.iinc X17.here hx rfl (hb hby at_131) rfl (l' := #[.val (.int md), .val (.int r1), .val (.int r2), .val (.int r3), .val (.int r4), .val (.ref b1), .val (.int (1 : Int32)), .val (.double bt), .second, .val (.int tLo), .val (.int tHi), .val (.int eLo), .val (.int eHi), .val (.int o1), .val (.int o2), .val (.int o3), .val (.int o4), .val (.int ((0 : Int32) + (1 : Int32))), .val (.int (0 : Int32)), .unset]) rfl w_k) ?_
      show Gd _ _ _ _ (T17.setTop (mkF m 134 #[.val (.int md), .val (.int r1), .val (.int r2), .val (.int r3), .val (.int r4), .val (.ref b1), .val (.int (1 : Int32)), .val (.double bt), .second, .val (.int tLo), .val (.int tHi), .val (.int eLo), .val (.int eHi), .val (.int o1), .val (.int o2), .val (.int o3), .val (.int o4), .val (.int ((0 : Int32) + (1 : Int32))), .val (.int (0 : Int32)), .unset] []))
      have ei : ((0 : Int32) + (1 : Int32)) = Int32.ofNat (0 + 1) := own_incN _
      rw [ei]
      exact J ⟨T17, _, (0 + 1), fd16⟩ ⟨X17, Hd16, NNd16, Zd16, Or.inr ⟨hc15, rfl, qd16 rfl⟩⟩
  obtain ⟨T_0, L_0, n_0, f_0⟩ := y
  obtain ⟨X_0, H_0, N_0, Z_0, q_0⟩ := hy
  dsimp only at X_0 H_0 N_0 Z_0 q_0 ⊢
  show Gd _ _ _ _ (T_0.setTop (mkF m 134 #[.val (.int md), .val (.int r1), .val (.int r2), .val (.int r3), .val (.int r4), .val (.ref b1), .val (.int (1 : Int32)), .val (.double bt), .second, .val (.int tLo), .val (.int tHi), .val (.int eLo), .val (.int eHi), .val (.int o1), .val (.int o2), .val (.int o3), .val (.int o4), .val (.int (Int32.ofNat n_0)), .val (.int (0 : Int32)), .unset] []))
  refine Gd.viaA (A := fun y : State × List Loc × Nat × (Nat → Int32) => Stand pg l ev room_1 s_ m #[(.int md), (.int r1), (.int r2), (.int r3), (.int r4)] bl mt cd y.1 y.2.1 11 16 ∧ own_S Z y.1.heap b1 n0 y.2.2.1 y.2.2.2 0 (fun _ => 0) ∧ Fr n0 y.2.1 ∧ n0 ≤ y.1.heap.size) (S' := fun y => y.1.setTop (mkF m 163 #[.val (.int md), .val (.int r1), .val (.int r2), .val (.int r3), .val (.int r4), .val (.ref b1), .val (.int (1 : Int32)), .val (.double bt), .second, .val (.int tLo), .val (.int tHi), .val (.int eLo), .val (.int eHi), .val (.int o1), .val (.int o2), .val (.int o3), .val (.int o4), .val (.int (Int32.ofNat y.2.2.1)), .val (.int (0 : Int32)), .unset] [])) (fun J => ?_) (fun y hy => ?_)
  · refine Gd.go (fun _ w_k => XS.iload X_0.here hx rfl (hb hby at_134) rfl w_k) ?_
    show Gd _ _ _ _ (T_0.setTop (mkF m 136 #[.val (.int md), .val (.int r1), .val (.int r2), .val (.int r3), .val (.int r4), .val (.ref b1), .val (.int (1 : Int32)), .val (.double bt), .second, .val (.int tLo), .val (.int tHi), .val (.int eLo), .val (.int eHi), .val (.int o1), .val (.int o2), .val (.int o3), .val (.int o4), .val (.int (Int32.ofNat n_0)), .val (.int (0 : Int32)), .unset] [(.int o2)]))
    by_cases hc18 : o2 = (0 : Int32)
    · refine Gd.go (fun _ w_k => XS.ifYes X_0.here hx rfl (pc0 := 136) (pc' := 163) rfl (hb hby at_136) rfl ((if0 _ _).trans (teq hc18).1) (by decide) (by decide) w_k) ?_
      show Gd _ _ _ _ (T_0.setTop (mkF m 163 #[.val (.int md), .val (.int r1), .val (.int r2), .val (.int r3), .val (.int r4), .val (.ref b1), .val (.int (1 : Int32)), .val (.double bt), .second, .val (.int tLo), .val (.int tHi), .val (.int eLo), .val (.int eHi), .val (.int o1), .val (.int o2), .val (.int o3), .val (.int o4), .val (.int (Int32.ofNat n_0)), .val (.int (0 : Int32)), .unset] []))
      exact J ⟨T_0, _, n_0, f_0⟩ ⟨(X_0.more (by decide) (by decide)), H_0, N_0, Z_0⟩
    · refine Gd.go (fun _ w_k => XS.ifNo X_0.here hx rfl (hb hby at_136) rfl ((if0 _ _).trans (feq hc18).1) w_k) ?_
      show Gd _ _ _ _ (T_0.setTop (mkF m 139 #[.val (.int md), .val (.int r1), .val (.int r2), .val (.int r3), .val (.int r4), .val (.ref b1), .val (.int (1 : Int32)), .val (.double bt), .second, .val (.int tLo), .val (.int tHi), .val (.int eLo), .val (.int eHi), .val (.int o1), .val (.int o2), .val (.int o3), .val (.int o4), .val (.int (Int32.ofNat n_0)), .val (.int (0 : Int32)), .unset] []))
      refine Gd.go (fun _ w_k => XS.iload X_0.here hx rfl (hb hby at_139) rfl w_k) ?_
      show Gd _ _ _ _ (T_0.setTop (mkF m 141 #[.val (.int md), .val (.int r1), .val (.int r2), .val (.int r3), .val (.int r4), .val (.ref b1), .val (.int (1 : Int32)), .val (.double bt), .second, .val (.int tLo), .val (.int tHi), .val (.int eLo), .val (.int eHi), .val (.int o1), .val (.int o2), .val (.int o3), .val (.int o4), .val (.int (Int32.ofNat n_0)), .val (.int (0 : Int32)), .unset] [(.int o1)]))
      by_cases hc19 : o1 = (0 : Int32)
      · refine Gd.go (fun _ w_k => XS.ifYes X_0.here hx rfl (pc0 := 141) (pc' := 151) rfl (hb hby at_141) rfl ((if0 _ _).trans (teq hc19).1) (by decide) (by decide) w_k) ?_
        show Gd _ _ _ _ (T_0.setTop (mkF m 151 #[.val (.int md), .val (.int r1), .val (.int r2), .val (.int r3), .val (.int r4), .val (.ref b1), .val (.int (1 : Int32)), .val (.double bt), .second, .val (.int tLo), .val (.int tHi), .val (.int eLo), .val (.int eHi), .val (.int o1), .val (.int o2), .val (.int o3), .val (.int o4), .val (.int (Int32.ofNat n_0)), .val (.int (0 : Int32)), .unset] []))
        refine Gd.go (fun _ w_k => XS.aload X_0.here hx rfl (hb hby at_151) rfl rfl w_k) ?_
        show Gd _ _ _ _ (T_0.setTop (mkF m 153 #[.val (.int md), .val (.int r1), .val (.int r2), .val (.int r3), .val (.int r4), .val (.ref b1), .val (.int (1 : Int32)), .val (.double bt), .second, .val (.int tLo), .val (.int tHi), .val (.int eLo), .val (.int eHi), .val (.int o1), .val (.int o2), .val (.int o3), .val (.int o4), .val (.int (Int32.ofNat n_0)), .val (.int (0 : Int32)), .unset] [(.ref b1)]))
        refine Gd.go (fun _ w_k => XS.iload X_0.here hx rfl (hb hby at_153) rfl w_k) ?_
        show Gd _ _ _ _ (T_0.setTop (mkF m 155 #[.val (.int md), .val (.int r1), .val (.int r2), .val (.int r3), .val (.int r4), .val (.ref b1), .val (.int (1 : Int32)), .val (.double bt), .second, .val (.int tLo), .val (.int tHi), .val (.int eLo), .val (.int eHi), .val (.int o1), .val (.int o2), .val (.int o3), .val (.int o4), .val (.int (Int32.ofNat n_0)), .val (.int (0 : Int32)), .unset] [(.int tHi), (.ref b1)]))
        refine Gd.go (fun _ w_k => XS.dload X_0.here hx rfl (hb hby at_155) rfl w_k) ?_
        show Gd _ _ _ _ (T_0.setTop (mkF m 157 #[.val (.int md), .val (.int r1), .val (.int r2), .val (.int r3), .val (.int r4), .val (.ref b1), .val (.int (1 : Int32)), .val (.double bt), .second, .val (.int tLo), .val (.int tHi), .val (.int eLo), .val (.int eHi), .val (.int o1), .val (.int o2), .val (.int o3), .val (.int o4), .val (.int (Int32.ofNat n_0)), .val (.int (0 : Int32)), .unset] [(.double bt), (.int tHi), (.ref b1)]))
        obtain ⟨v21, T21, L21, X21, hQ21, st21⟩ := own_callV X_0 hx hZ (C := "org/eventropy/core/SmallProbabilities") (y := (⟨"org/eventropy/core/SmallProbabilities", "addTransition", "(ID)V"⟩ : MethodName)) hown (hw _ (List.mem_of_getElem? (i := 40) rfl)) (hw _ (List.mem_of_getElem? (i := 41) rfl)) (hw _ (List.mem_of_getElem? (i := 43) rfl)) (hw _ (List.mem_of_getElem? (i := 42) rfl)) (hw _ (List.mem_of_getElem? (i := 2) rfl)) (hw _ (List.mem_of_getElem? (i := 44) rfl)) (by decide) H_0.exa (W := 0) (own_c7 l Z a0 hw b1 tHi bt n_0 0 f_0 (fun _ => 0) (Or.inl (own_u1 q_0 hc19)) T_0.heap n0 Z_0 H_0) rfl rfl rfl (by decide) (by decide) (g := (mkF m 157 #[.val (.int md), .val (.int r1), .val (.int r2), .val (.int r3), .val (.int r4), .val (.ref b1), .val (.int (1 : Int32)), .val (.double bt), .second, .val (.int tLo), .val (.int tHi), .val (.int eLo), .val (.int eHi), .val (.int o1), .val (.int o2), .val (.int o3), .val (.int o4), .val (.int (Int32.ofNat n_0)), .val (.int (0 : Int32)), .unset] [(.double bt), (.int tHi), (.ref b1)])) rfl (by rw [hml]; rfl) (argsL := [(.int tHi), (.double bt)]) (rest := []) (lenOf own_pd6 rfl) rfl (Nat.le_of_eq rfl) (hb hby at_157) rfl (by decide) (by decide)
        obtain ⟨rfl, ⟨fd20, Hd20, qd20⟩, Zd20, Nd20⟩ := hQ21
        refine Gd.go (fun _ w_k => st21 _ w_k) ?_
        show Gd _ _ _ _ (T21.setTop (mkF m 160 #[.val (.int md), .val (.int r1), .val (.int r2), .val (.int r3), .val (.int r4), .val (.ref b1), .val (.int (1 : Int32)), .val (.double bt), .second, .val (.int tLo), .val (.int tHi), .val (.int eLo), .val (.int eHi), .val (.int o1), .val (.int o2), .val (.int o3), .val (.int o4), .val (.int (Int32.ofNat n_0)), .val (.int (0 : Int32)), .unset] []))
        have NNd20 := Fr.app N_0 Nd20
        refine Gd.go (fun _ w_k => XS.iinc X21.here hx rfl (hb hby at_160) rfl (l' := #[.val (.int md), .val (.int r1), .val (.int r2), .val (.int r3), .val (.int r4), .val (.ref b1), .val (.int (1 : Int32)), .val (.double bt), .second, .val (.int tLo), .val (.int tHi), .val (.int eLo), .val (.int eHi), .val (.int o1), .val (.int o2), .val (.int o3), .val (.int o4), .val (.int ((Int32.ofNat n_0) + (1 : Int32))), .val (.int (0 : Int32)), .unset]) rfl w_k) ?_
        show Gd _ _ _ _ (T21.setTop (mkF m 163 #[.val (.int md), .val (.int r1), .val (.int r2), .val (.int r3), .val (.int r4), .val (.ref b1), .val (.int (1 : Int32)), .val (.double bt), .second, .val (.int tLo), .val (.int tHi), .val (.int eLo), .val (.int eHi), .val (.int o1), .val (.int o2), .val (.int o3), .val (.int o4), .val (.int ((Int32.ofNat n_0) + (1 : Int32))), .val (.int (0 : Int32)), .unset] []))
        have ei : ((Int32.ofNat n_0) + (1 : Int32)) = Int32.ofNat (n_0 + 1) := own_incN _
        rw [ei]
        exact J ⟨T21, _, (n_0 + 1), fd20⟩ ⟨X21, Hd20, NNd20, Zd20⟩
      · refine Gd.go (fun _ w_k => XS.ifNo X_0.here hx rfl (hb hby at_141) rfl ((if0 _ _).trans (feq hc19).1) w_k) ?_
        show Gd _ _ _ _ (T_0.setTop (mkF m 144 #[.val (.int md), .val (.int r1), .val (.int r2), .val (.int r3), .val (.int r4), .val (.ref b1), .val (.int (1 : Int32)), .val (.double bt), .second, .val (.int tLo), .val (.int tHi), .val (.int eLo), .val (.int eHi), .val (.int o1), .val (.int o2), .val (.int o3), .val (.int o4), .val (.int (Int32.ofNat n_0)), .val (.int (0 : Int32)), .unset] []))
        refine Gd.go (fun _ w_k => XS.iload X_0.here hx rfl (hb hby at_144) rfl w_k) ?_
        show Gd _ _ _ _ (T_0.setTop (mkF m 146 #[.val (.int md), .val (.int r1), .val (.int r2), .val (.int r3), .val (.int r4), .val (.ref b1), .val (.int (1 : Int32)), .val (.double bt), .second, .val (.int tLo), .val (.int tHi), .val (.int eLo), .val (.int eHi), .val (.int o1), .val (.int o2), .val (.int o3), .val (.int o4), .val (.int (Int32.ofNat n_0)), .val (.int (0 : Int32)), .unset] [(.int tHi)]))
        refine Gd.go (fun _ w_k => XS.iload X_0.here hx rfl (hb hby at_146) rfl w_k) ?_
        show Gd _ _ _ _ (T_0.setTop (mkF m 148 #[.val (.int md), .val (.int r1), .val (.int r2), .val (.int r3), .val (.int r4), .val (.ref b1), .val (.int (1 : Int32)), .val (.double bt), .second, .val (.int tLo), .val (.int tHi), .val (.int eLo), .val (.int eHi), .val (.int o1), .val (.int o2), .val (.int o3), .val (.int o4), .val (.int (Int32.ofNat n_0)), .val (.int (0 : Int32)), .unset] [(.int tLo), (.int tHi)]))
        by_cases hc22 : tLo < tHi
        · refine Gd.go (fun _ w_k => XS.icmpNo X_0.here hx rfl (hb hby at_148) rfl (tlt hc22).2.2.2 w_k) ?_
          show Gd _ _ _ _ (T_0.setTop (mkF m 151 #[.val (.int md), .val (.int r1), .val (.int r2), .val (.int r3), .val (.int r4), .val (.ref b1), .val (.int (1 : Int32)), .val (.double bt), .second, .val (.int tLo), .val (.int tHi), .val (.int eLo), .val (.int eHi), .val (.int o1), .val (.int o2), .val (.int o3), .val (.int o4), .val (.int (Int32.ofNat n_0)), .val (.int (0 : Int32)), .unset] []))
          refine Gd.go (fun _ w_k => XS.aload X_0.here hx rfl (hb hby at_151) rfl rfl w_k) ?_
          show Gd _ _ _ _ (T_0.setTop (mkF m 153 #[.val (.int md), .val (.int r1), .val (.int r2), .val (.int r3), .val (.int r4), .val (.ref b1), .val (.int (1 : Int32)), .val (.double bt), .second, .val (.int tLo), .val (.int tHi), .val (.int eLo), .val (.int eHi), .val (.int o1), .val (.int o2), .val (.int o3), .val (.int o4), .val (.int (Int32.ofNat n_0)), .val (.int (0 : Int32)), .unset] [(.ref b1)]))
          refine Gd.go (fun _ w_k => XS.iload X_0.here hx rfl (hb hby at_153) rfl w_k) ?_
          show Gd _ _ _ _ (T_0.setTop (mkF m 155 #[.val (.int md), .val (.int r1), .val (.int r2), .val (.int r3), .val (.int r4), .val (.ref b1), .val (.int (1 : Int32)), .val (.double bt), .second, .val (.int tLo), .val (.int tHi), .val (.int eLo), .val (.int eHi), .val (.int o1), .val (.int o2), .val (.int o3), .val (.int o4), .val (.int (Int32.ofNat n_0)), .val (.int (0 : Int32)), .unset] [(.int tHi), (.ref b1)]))
          refine Gd.go (fun _ w_k => XS.dload X_0.here hx rfl (hb hby at_155) rfl w_k) ?_
          show Gd _ _ _ _ (T_0.setTop (mkF m 157 #[.val (.int md), .val (.int r1), .val (.int r2), .val (.int r3), .val (.int r4), .val (.ref b1), .val (.int (1 : Int32)), .val (.double bt), .second, .val (.int tLo), .val (.int tHi), .val (.int eLo), .val (.int eHi), .val (.int o1), .val (.int o2), .val (.int o3), .val (.int o4), .val (.int (Int32.ofNat n_0)), .val (.int (0 : Int32)), .unset] [(.double bt), (.int tHi), (.ref b1)]))
          obtain ⟨v24, T24, L24, X24, hQ24, st24⟩ := own_callV X_0 hx hZ (C := "org/eventropy/core/SmallProbabilities") (y := (⟨"org/eventropy/core/SmallProbabilities", "addTransition", "(ID)V"⟩ : MethodName)) hown (hw _ (List.mem_of_getElem? (i := 40) rfl)) (hw _ (List.mem_of_getElem? (i := 41) rfl)) (hw _ (List.mem_of_getElem? (i := 43) rfl)) (hw _ (List.mem_of_getElem? (i := 42) rfl)) (hw _ (List.mem_of_getElem? (i := 2) rfl)) (hw _ (List.mem_of_getElem? (i := 44) rfl)) (by decide) H_0.exa (W := 0) (own_c7 l Z a0 hw b1 tHi bt n_0 0 f_0 (fun _ => 0) (own_u2 q_0 hc19 hc22) T_0.heap n0 Z_0 H_0) rfl rfl rfl (by decide) (by decide) (g := (mkF m 157 #[.val (.int md), .val (.int r1), .val (.int r2), .val (.int r3), .val (.int r4), .val (.ref b1), .val (.int (1 : Int32)), .val (.double bt), .second, .val (.int tLo), .val (.int tHi), .val (.int eLo), .val (.int eHi), .val (.int o1), .val (.int o2), .val (.int o3), .val (.int o4), .val (.int (Int32.ofNat n_0)), .val (.int (0 : Int32)), .unset] [(.double bt), (.int tHi), (.ref b1)])) rfl (by rw [hml]; rfl) (argsL := [(.int tHi), (.double bt)]) (rest := []) (lenOf own_pd6 rfl) rfl (Nat.le_of_eq rfl) (hb hby at_157) rfl (by decide) (by decide)
          obtain ⟨rfl, ⟨fd23, Hd23, qd23⟩, Zd23, Nd23⟩ := hQ24
          refine Gd.go (fun _ w_k => st24 _ w_k) ?_
          show Gd _ _ _ _ (T24.setTop (mkF m 160 #[.val (.int md), .val (.int r1), .val (.int r2), .val (.int r3), .val (.int r4), .val (.ref b1), .val (.int (1 : Int32)), .val (.double bt), .second, .val (.int tLo), .val (.int tHi), .val (.int eLo), .val (.int eHi), .val (.int o1), .val (.int o2), .val (.int o3), .val (.int o4), .val (.int (Int32.ofNat n_0)), .val (.int (0 : Int32)), .unset] []))
          have NNd23 := Fr.app N_0 Nd23
          refine Gd.go (fun _ w_k => XS.iinc X24.here hx rfl (hb hby at_160) rfl (l' := #[.val (.int md), .val (.int r1), .val (.int r2), .val (.int r3), .val (.int r4), .val (.ref b1), .val (.int (1 : Int32)), .val (.double bt), .second, .val (.int tLo), .val (.int tHi), .val (.int eLo), .val (.int eHi), .val (.int o1), .val (.int o2), .val (.int o3), .val (.int o4), .val (.int ((Int32.ofNat n_0) + (1 : Int32))), .val (.int (0 : Int32)), .unset]) rfl w_k) ?_
          show Gd _ _ _ _ (T24.setTop (mkF m 163 #[.val (.int md), .val (.int r1), .val (.int r2), .val (.int r3), .val (.int r4), .val (.ref b1), .val (.int (1 : Int32)), .val (.double bt), .second, .val (.int tLo), .val (.int tHi), .val (.int eLo), .val (.int eHi), .val (.int o1), .val (.int o2), .val (.int o3), .val (.int o4), .val (.int ((Int32.ofNat n_0) + (1 : Int32))), .val (.int (0 : Int32)), .unset] []))
          have ei : ((Int32.ofNat n_0) + (1 : Int32)) = Int32.ofNat (n_0 + 1) := own_incN _
          rw [ei]
          exact J ⟨T24, _, (n_0 + 1), fd23⟩ ⟨X24, Hd23, NNd23, Zd23⟩
        · refine Gd.go (fun _ w_k => XS.icmpYes X_0.here hx rfl (pc0 := 148) (pc' := 163) rfl (hb hby at_148) rfl (flt hc22).2.2.2 (by decide) (by decide) w_k) ?_
          show Gd _ _ _ _ (T_0.setTop (mkF m 163 #[.val (.int md), .val (.int r1), .val (.int r2), .val (.int r3), .val (.int r4), .val (.ref b1), .val (.int (1 : Int32)), .val (.double bt), .second, .val (.int tLo), .val (.int tHi), .val (.int eLo), .val (.int eHi), .val (.int o1), .val (.int o2), .val (.int o3), .val (.int o4), .val (.int (Int32.ofNat n_0)), .val (.int (0 : Int32)), .unset] []))
          exact J ⟨T_0, _, n_0, f_0⟩ ⟨(X_0.more (by decide) (by decide)), H_0, N_0, Z_0⟩
  obtain ⟨T_1, L_1, n_1, f_1⟩ := y
  obtain ⟨X_1, H_1, N_1, Z_1⟩ := hy
  dsimp only at X_1 H_1 N_1 Z_1 ⊢
  show Gd _ _ _ _ (T_1.setTop (mkF m 163 #[.val (.int md), .val (.int r1), .val (.int r2), .val (.int r3), .val (.int r4), .val (.ref b1), .val (.int (1 : Int32)), .val (.double bt), .second, .val (.int tLo), .val (.int tHi), .val (.int eLo), .val (.int eHi), .val (.int o1), .val (.int o2), .val (.int o3), .val (.int o4), .val (.int (Int32.ofNat n_1)), .val (.int (0 : Int32)), .unset] []))
  refine Gd.viaA (A := fun y : State × List Loc × Nat × (Nat → Int32) => Stand pg l ev room_1 s_ m #[(.int md), (.int r1), (.int r2), (.int r3), (.int r4)] bl mt cd y.1 y.2.1 13 20 ∧ own_S Z y.1.heap b1 n0 n_1 f_1 y.2.2.1 y.2.2.2 ∧ Fr n0 y.2.1 ∧ n0 ≤ y.1.heap.size ∧ ((o3 = 0 ∧ y.2.2.1 = 0) ∨ (¬ o3 = 0 ∧ y.2.2.1 = 1 ∧ y.2.2.2 0 = eLo))) (S' := fun y => y.1.setTop (mkF m 180 #[.val (.int md), .val (.int r1), .val (.int r2), .val (.int r3), .val (.int r4), .val (.ref b1), .val (.int (1 : Int32)), .val (.double bt), .second, .val (.int tLo), .val (.int tHi), .val (.int eLo), .val (.int eHi), .val (.int o1), .val (.int o2), .val (.int o3), .val (.int o4), .val (.int (Int32.ofNat n_1)), .val (.int (Int32.ofNat y.2.2.1)), .unset] [])) (fun J => ?_) (fun y hy => ?_)
  · refine Gd.go (fun _ w_k => XS.iload X_1.here hx rfl (hb hby at_163) rfl w_k) ?_
    show Gd _ _ _ _ (T_1.setTop (mkF m 165 #[.val (.int md), .val (.int r1), .val (.int r2), .val (.int r3), .val (.int r4), .val (.ref b1), .val (.int (1 : Int32)), .val (.double bt), .second, .val (.int tLo), .val (.int tHi), .val (.int eLo), .val (.int eHi), .val (.int o1), .val (.int o2), .val (.int o3), .val (.int o4), .val (.int (Int32.ofNat n_1)), .val (.int (0 : Int32)), .unset] [(.int o3)]))
    by_cases hc25 : o3 = (0 : Int32)
    · refine Gd.go (fun _ w_k => XS.ifYes X_1.here hx rfl (pc0 := 165) (pc' := 180) rfl (hb hby at_165) rfl ((if0 _ _).trans (teq hc25).1) (by decide) (by decide) w_k) ?_
      show Gd _ _ _ _ (T_1.setTop (mkF m 180 #[.val (.int md), .val (.int r1), .val (.int r2), .val (.int r3), .val (.int r4), .val (.ref b1), .val (.int (1 : Int32)), .val (.double bt), .second, .val (.int tLo), .val (.int tHi), .val (.int eLo), .val (.int eHi), .val (.int o1), .val (.int o2), .val (.int o3), .val (.int o4), .val (.int (Int32.ofNat n_1)), .val (.int (0 : Int32)), .unset] []))
      exact J ⟨T_1, _, 0, (fun _ => 0)⟩ ⟨(X_1.more (by decide) (by decide)), H_1, N_1, Z_1, Or.inl ⟨hc25, rfl⟩⟩
    · refine Gd.go (fun _ w_k => XS.ifNo X_1.here hx rfl (hb hby at_165) rfl ((if0 _ _).trans (feq hc25).1) w_k) ?_
      show Gd _ _ _ _ (T_1.setTop (mkF m 168 #[.val (.int md), .val (.int r1), .val (.int r2), .val (.int r3), .val (.int r4), .val (.ref b1), .val (.int (1 : Int32)), .val (.double bt), .second, .val (.int tLo), .val (.int tHi), .val (.int eLo), .val (.int eHi), .val (.int o1), .val (.int o2), .val (.int o3), .val (.int o4), .val (.int (Int32.ofNat n_1)), .val (.int (0 : Int32)), .unset] []))
      refine Gd.go (fun _ w_k => XS.aload X_1.here hx rfl (hb hby at_168) rfl rfl w_k) ?_
      show Gd _ _ _ _ (T_1.setTop (mkF m 170 #[.val (.int md), .val (.int r1), .val (.int r2), .val (.int r3), .val (.int r4), .val (.ref b1), .val (.int (1 : Int32)), .val (.double bt), .second, .val (.int tLo), .val (.int tHi), .val (.int eLo), .val (.int eHi), .val (.int o1), .val (.int o2), .val (.int o3), .val (.int o4), .val (.int (Int32.ofNat n_1)), .val (.int (0 : Int32)), .unset] [(.ref b1)]))
      refine Gd.go (fun _ w_k => XS.iload X_1.here hx rfl (hb hby at_170) rfl w_k) ?_
      show Gd _ _ _ _ (T_1.setTop (mkF m 172 #[.val (.int md), .val (.int r1), .val (.int r2), .val (.int r3), .val (.int r4), .val (.ref b1), .val (.int (1 : Int32)), .val (.double bt), .second, .val (.int tLo), .val (.int tHi), .val (.int eLo), .val (.int eHi), .val (.int o1), .val (.int o2), .val (.int o3), .val (.int o4), .val (.int (Int32.ofNat n_1)), .val (.int (0 : Int32)), .unset] [(.int eLo), (.ref b1)]))
      refine Gd.go (fun _ w_k => XS.dload X_1.here hx rfl (hb hby at_172) rfl w_k) ?_
      show Gd _ _ _ _ (T_1.setTop (mkF m 174 #[.val (.int md), .val (.int r1), .val (.int r2), .val (.int r3), .val (.int r4), .val (.ref b1), .val (.int (1 : Int32)), .val (.double bt), .second, .val (.int tLo), .val (.int tHi), .val (.int eLo), .val (.int eHi), .val (.int o1), .val (.int o2), .val (.int o3), .val (.int o4), .val (.int (Int32.ofNat n_1)), .val (.int (0 : Int32)), .unset] [(.double bt), (.int eLo), (.ref b1)]))
      obtain ⟨v27, T27, L27, X27, hQ27, st27⟩ := own_callV X_1 hx hZ (C := "org/eventropy/core/SmallProbabilities") (y := (⟨"org/eventropy/core/SmallProbabilities", "addEnding", "(ID)V"⟩ : MethodName)) hown (hw _ (List.mem_of_getElem? (i := 76) rfl)) (hw _ (List.mem_of_getElem? (i := 77) rfl)) (hw _ (List.mem_of_getElem? (i := 79) rfl)) (hw _ (List.mem_of_getElem? (i := 78) rfl)) (hw _ (List.mem_of_getElem? (i := 2) rfl)) (hw _ (List.mem_of_getElem? (i := 80) rfl)) (by decide) H_1.exa (W := 0) (own_c14 l Z a0 hw b1 eLo bt n_1 0 f_1 (fun _ => 0) (Or.inl rfl) T_1.heap n0 Z_1 H_1) rfl rfl rfl (by decide) (by decide) (g := (mkF m 174 #[.val (.int md), .val (.int r1), .val (.int r2), .val (.int r3), .val (.int r4), .val (.ref b1), .val (.int (1 : Int32)), .val (.double bt), .second, .val (.int tLo), .val (.int tHi), .val (.int eLo), .val (.int eHi), .val (.int o1), .val (.int o2), .val (.int o3), .val (.int o4), .val (.int (Int32.ofNat n_1)), .val (.int (0 : Int32)), .unset] [(.double bt), (.int eLo), (.ref b1)])) rfl (by rw [hml]; rfl) (argsL := [(.int eLo), (.double bt)]) (rest := []) (lenOf own_pd6 rfl) rfl (Nat.le_of_eq rfl) (hb hby at_174) rfl (by decide) (by decide)
      obtain ⟨rfl, ⟨fd26, Hd26, qd26⟩, Zd26, Nd26⟩ := hQ27
      refine Gd.go (fun _ w_k => st27 _ w_k) ?_
      show Gd _ _ _ _ (T27.setTop (mkF m 177 #[.val (.int md), .val (.int r1), .val (.int r2), .val (.int r3), .val (.int r4), .val (.ref b1), .val (.int (1 : Int32)), .val (.double bt), .second, .val (.int tLo), .val (.int tHi), .val (.int eLo), .val (.int eHi), .val (.int o1), .val (.int o2), .val (.int o3), .val (.int o4), .val (.int (Int32.ofNat n_1)), .val (.int (0 : Int32)), .unset] []))
      have NNd26 := Fr.app N_1 Nd26
      refine Gd.go (fun _ w_k => XS.iinc X27.here hx rfl (hb hby at_177) rfl (l' := #[.val (.int md), .val (.int r1), .val (.int r2), .val (.int r3), .val (.int r4), .val (.ref b1), .val (.int (1 : Int32)), .val (.double bt), .second, .val (.int tLo), .val (.int tHi), .val (.int eLo), .val (.int eHi), .val (.int o1), .val (.int o2), .val (.int o3), .val (.int o4), .val (.int (Int32.ofNat n_1)), .val (.int ((0 : Int32) + (1 : Int32))), .unset]) rfl w_k) ?_
      show Gd _ _ _ _ (T27.setTop (mkF m 180 #[.val (.int md), .val (.int r1), .val (.int r2), .val (.int r3), .val (.int r4), .val (.ref b1), .val (.int (1 : Int32)), .val (.double bt), .second, .val (.int tLo), .val (.int tHi), .val (.int eLo), .val (.int eHi), .val (.int o1), .val (.int o2), .val (.int o3), .val (.int o4), .val (.int (Int32.ofNat n_1)), .val (.int ((0 : Int32) + (1 : Int32))), .unset] []))
      have ei : ((0 : Int32) + (1 : Int32)) = Int32.ofNat (0 + 1) := own_incN _
      rw [ei]
      exact J ⟨T27, _, (0 + 1), fd26⟩ ⟨X27, Hd26, NNd26, Zd26, Or.inr ⟨hc25, rfl, qd26 rfl⟩⟩
  obtain ⟨T_2, L_2, n_2, f_2⟩ := y
  obtain ⟨X_2, H_2, N_2, Z_2, q_2⟩ := hy
  dsimp only at X_2 H_2 N_2 Z_2 q_2 ⊢
  show Gd _ _ _ _ (T_2.setTop (mkF m 180 #[.val (.int md), .val (.int r1), .val (.int r2), .val (.int r3), .val (.int r4), .val (.ref b1), .val (.int (1 : Int32)), .val (.double bt), .second, .val (.int tLo), .val (.int tHi), .val (.int eLo), .val (.int eHi), .val (.int o1), .val (.int o2), .val (.int o3), .val (.int o4), .val (.int (Int32.ofNat n_1)), .val (.int (Int32.ofNat n_2)), .unset] []))
  refine Gd.viaA (A := fun y : State × List Loc × Nat × (Nat → Int32) => Stand pg l ev room_1 s_ m #[(.int md), (.int r1), (.int r2), (.int r3), (.int r4)] bl mt cd y.1 y.2.1 15 24 ∧ own_S Z y.1.heap b1 n0 n_1 f_1 y.2.2.1 y.2.2.2 ∧ Fr n0 y.2.1 ∧ n0 ≤ y.1.heap.size) (S' := fun y => y.1.setTop (mkF m 209 #[.val (.int md), .val (.int r1), .val (.int r2), .val (.int r3), .val (.int r4), .val (.ref b1), .val (.int (1 : Int32)), .val (.double bt), .second, .val (.int tLo), .val (.int tHi), .val (.int eLo), .val (.int eHi), .val (.int o1), .val (.int o2), .val (.int o3), .val (.int o4), .val (.int (Int32.ofNat n_1)), .val (.int (Int32.ofNat y.2.2.1)), .unset] [])) (fun J => ?_) (fun y hy => ?_)
  · refine Gd.go (fun _ w_k => XS.iload X_2.here hx rfl (hb hby at_180) rfl w_k) ?_
    show Gd _ _ _ _ (T_2.setTop (mkF m 182 #[.val (.int md), .val (.int r1), .val (.int r2), .val (.int r3), .val (.int r4), .val (.ref b1), .val (.int (1 : Int32)), .val (.double bt), .second, .val (.int tLo), .val (.int tHi), .val (.int eLo), .val (.int eHi), .val (.int o1), .val (.int o2), .val (.int o3), .val (.int o4), .val (.int (Int32.ofNat n_1)), .val (.int (Int32.ofNat n_2)), .unset] [(.int o4)]))
    by_cases hc28 : o4 = (0 : Int32)
    · refine Gd.go (fun _ w_k => XS.ifYes X_2.here hx rfl (pc0 := 182) (pc' := 209) rfl (hb hby at_182) rfl ((if0 _ _).trans (teq hc28).1) (by decide) (by decide) w_k) ?_
      show Gd _ _ _ _ (T_2.setTop (mkF m 209 #[.val (.int md), .val (.int r1), .val (.int r2), .val (.int r3), .val (.int r4), .val (.ref b1), .val (.int (1 : Int32)), .val (.double bt), .second, .val (.int tLo), .val (.int tHi), .val (.int eLo), .val (.int eHi), .val (.int o1), .val (.int o2), .val (.int o3), .val (.int o4), .val (.int (Int32.ofNat n_1)), .val (.int (Int32.ofNat n_2)), .unset] []))
      exact J ⟨T_2, _, n_2, f_2⟩ ⟨(X_2.more (by decide) (by decide)), H_2, N_2, Z_2⟩
    · refine Gd.go (fun _ w_k => XS.ifNo X_2.here hx rfl (hb hby at_182) rfl ((if0 _ _).trans (feq hc28).1) w_k) ?_
      show Gd _ _ _ _ (T_2.setTop (mkF m 185 #[.val (.int md), .val (.int r1), .val (.int r2), .val (.int r3), .val (.int r4), .val (.ref b1), .val (.int (1 : Int32)), .val (.double bt), .second, .val (.int tLo), .val (.int tHi), .val (.int eLo), .val (.int eHi), .val (.int o1), .val (.int o2), .val (.int o3), .val (.int o4), .val (.int (Int32.ofNat n_1)), .val (.int (Int32.ofNat n_2)), .unset] []))
      refine Gd.go (fun _ w_k => XS.iload X_2.here hx rfl (hb hby at_185) rfl w_k) ?_
      show Gd _ _ _ _ (T_2.setTop (mkF m 187 #[.val (.int md), .val (.int r1), .val (.int r2), .val (.int r3), .val (.int r4), .val (.ref b1), .val (.int (1 : Int32)), .val (.double bt), .second, .val (.int tLo), .val (.int tHi), .val (.int eLo), .val (.int eHi), .val (.int o1), .val (.int o2), .val (.int o3), .val (.int o4), .val (.int (Int32.ofNat n_1)), .val (.int (Int32.ofNat n_2)), .unset] [(.int o3)]))
      by_cases hc29 : o3 = (0 : Int32)
      · refine Gd.go (fun _ w_k => XS.ifYes X_2.here hx rfl (pc0 := 187) (pc' := 197) rfl (hb hby at_187) rfl ((if0 _ _).trans (teq hc29).1) (by decide) (by decide) w_k) ?_
        show Gd _ _ _ _ (T_2.setTop (mkF m 197 #[.val (.int md), .val (.int r1), .val (.int r2), .val (.int r3), .val (.int r4), .val (.ref b1), .val (.int (1 : Int32)), .val (.double bt), .second, .val (.int tLo), .val (.int tHi), .val (.int eLo), .val (.int eHi), .val (.int o1), .val (.int o2), .val (.int o3), .val (.int o4), .val (.int (Int32.ofNat n_1)), .val (.int (Int32.ofNat n_2)), .unset] []))
        refine Gd.go (fun _ w_k => XS.aload X_2.here hx rfl (hb hby at_197) rfl rfl w_k) ?_
        show Gd _ _ _ _ (T_2.setTop (mkF m 199 #[.val (.int md), .val (.int r1), .val (.int r2), .val (.int r3), .val (.int r4), .val (.ref b1), .val (.int (1 : Int32)), .val (.double bt), .second, .val (.int tLo), .val (.int tHi), .val (.int eLo), .val (.int eHi), .val (.int o1), .val (.int o2), .val (.int o3), .val (.int o4), .val (.int (Int32.ofNat n_1)), .val (.int (Int32.ofNat n_2)), .unset] [(.ref b1)]))
        refine Gd.go (fun _ w_k => XS.iload X_2.here hx rfl (hb hby at_199) rfl w_k) ?_
        show Gd _ _ _ _ (T_2.setTop (mkF m 201 #[.val (.int md), .val (.int r1), .val (.int r2), .val (.int r3), .val (.int r4), .val (.ref b1), .val (.int (1 : Int32)), .val (.double bt), .second, .val (.int tLo), .val (.int tHi), .val (.int eLo), .val (.int eHi), .val (.int o1), .val (.int o2), .val (.int o3), .val (.int o4), .val (.int (Int32.ofNat n_1)), .val (.int (Int32.ofNat n_2)), .unset] [(.int eHi), (.ref b1)]))
        refine Gd.go (fun _ w_k => XS.dload X_2.here hx rfl (hb hby at_201) rfl w_k) ?_
        show Gd _ _ _ _ (T_2.setTop (mkF m 203 #[.val (.int md), .val (.int r1), .val (.int r2), .val (.int r3), .val (.int r4), .val (.ref b1), .val (.int (1 : Int32)), .val (.double bt), .second, .val (.int tLo), .val (.int tHi), .val (.int eLo), .val (.int eHi), .val (.int o1), .val (.int o2), .val (.int o3), .val (.int o4), .val (.int (Int32.ofNat n_1)), .val (.int (Int32.ofNat n_2)), .unset] [(.double bt), (.int eHi), (.ref b1)]))
        obtain ⟨v31, T31, L31, X31, hQ31, st31⟩ := own_callV X_2 hx hZ (C := "org/eventropy/core/SmallProbabilities") (y := (⟨"org/eventropy/core/SmallProbabilities", "addEnding", "(ID)V"⟩ : MethodName)) hown (hw _ (List.mem_of_getElem? (i := 76) rfl)) (hw _ (List.mem_of_getElem? (i := 77) rfl)) (hw _ (List.mem_of_getElem? (i := 79) rfl)) (hw _ (List.mem_of_getElem? (i := 78) rfl)) (hw _ (List.mem_of_getElem? (i := 2) rfl)) (hw _ (List.mem_of_getElem? (i := 80) rfl)) (by decide) H_2.exa (W := 0) (own_c14 l Z a0 hw b1 eHi bt n_1 n_2 f_1 f_2 (Or.inl (own_u1 q_2 hc29)) T_2.heap n0 Z_2 H_2) rfl rfl rfl (by decide) (by decide) (g := (mkF m 203 #[.val (.int md), .val (.int r1), .val (.int r2), .val (.int r3), .val (.int r4), .val (.ref b1), .val (.int (1 : Int32)), .val (.double bt), .second, .val (.int tLo), .val (.int tHi), .val (.int eLo), .val (.int eHi), .val (.int o1), .val (.int o2), .val (.int o3), .val (.int o4), .val (.int (Int32.ofNat n_1)), .val (.int (Int32.ofNat n_2)), .unset] [(.double bt), (.int eHi), (.ref b1)])) rfl (by rw [hml]; rfl) (argsL := [(.int eHi), (.double bt)]) (rest := []) (lenOf own_pd6 rfl) rfl (Nat.le_of_eq rfl) (hb hby at_203) rfl (by decide) (by decide)
        obtain ⟨rfl, ⟨fd30, Hd30, qd30⟩, Zd30, Nd30⟩ := hQ31
        refine Gd.go (fun _ w_k => st31 _ w_k) ?_
        show Gd _ _ _ _ (T31.setTop (mkF m 206 #[.val (.int md), .val (.int r1), .val (.int r2), .val (.int r3), .val (.int r4), .val (.ref b1), .val (.int (1 : Int32)), .val (.double bt), .second, .val (.int tLo), .val (.int tHi), .val (.int eLo), .val (.int eHi), .val (.int o1), .val (.int o2), .val (.int o3), .val (.int o4), .val (.int (Int32.ofNat n_1)), .val (.int (Int32.ofNat n_2)), .unset] []))
        have NNd30 := Fr.app N_2 Nd30
        refine Gd.go (fun _ w_k => XS.iinc X31.here hx rfl (hb hby at_206) rfl (l' := #[.val (.int md), .val (.int r1), .val (.int r2), .val (.int r3), .val (.int r4), .val (.ref b1), .val (.int (1 : Int32)), .val (.double bt), .second, .val (.int tLo), .val (.int tHi), .val (.int eLo), .val (.int eHi), .val (.int o1), .val (.int o2), .val (.int o3), .val (.int o4), .val (.int (Int32.ofNat n_1)), .val (.int ((Int32.ofNat n_2) + (1 : Int32))), .unset]) rfl w_k) ?_
        show Gd _ _ _ _ (T31.setTop (mkF m 209 #[.val (.int md), .val (.int r1), .val (.int r2), .val (.int r3), .val (.int r4), .val (.ref b1), .val (.int (1 : Int32)), .val (.double bt), .second, .val (.int tLo), .val (.int tHi), .val (.int eLo), .val (.int eHi), .val (.int o1), .val (.int o2), .val (.int o3), .val (.int o4), .val (.int (Int32.ofNat n_1)), .val (.int ((Int32.ofNat n_2) + (1 : Int32))), .unset] []))
        have ei : ((Int32.ofNat n_2) + (1 : Int32)) = Int32.ofNat (n_2 + 1) := own_incN _
        rw [ei]
        exact J ⟨T31, _, (n_2 + 1), fd30⟩ ⟨X31, Hd30, NNd30, Zd30⟩
      · refine Gd.go (fun _ w_k => XS.ifNo X_2.here hx rfl (hb hby at_187) rfl ((if0 _ _).trans (feq hc29).1) w_k) ?_
        show Gd _ _ _ _ (T_2.setTop (mkF m 190 #[.val (.int md), .val (.int r1), .val (.int r2), .val (.int r3), .val (.int r4), .val (.ref b1), .val (.int (1 : Int32)), .val (.double bt), .second, .val (.int tLo), .val (.int tHi), .val (.int eLo), .val (.int eHi), .val (.int o1), .val (.int o2), .val (.int o3), .val (.int o4), .val (.int (Int32.ofNat n_1)), .val (.int (Int32.ofNat n_2)), .unset] []))
        refine Gd.go (fun _ w_k => XS.iload X_2.here hx rfl (hb hby at_190) rfl w_k) ?_
        show Gd _ _ _ _ (T_2.setTop (mkF m 192 #[.val (.int md), .val (.int r1), .val (.int r2), .val (.int r3), .val (.int r4), .val (.ref b1), .val (.int (1 : Int32)), .val (.double bt), .second, .val (.int tLo), .val (.int tHi), .val (.int eLo), .val (.int eHi), .val (.int o1), .val (.int o2), .val (.int o3), .val (.int o4), .val (.int (Int32.ofNat n_1)), .val (.int (Int32.ofNat n_2)), .unset] [(.int eHi)]))
        refine Gd.go (fun _ w_k => XS.iload X_2.here hx rfl (hb hby at_192) rfl w_k) ?_
        show Gd _ _ _ _ (T_2.setTop (mkF m 194 #[.val (.int md), .val (.int r1), .val (.int r2), .val (.int r3), .val (.int r4), .val (.ref b1), .val (.int (1 : Int32)), .val (.double bt), .second, .val (.int tLo), .val (.int tHi), .val (.int eLo), .val (.int eHi), .val (.int o1), .val (.int o2), .val (.int o3), .val (.int o4), .val (.int (Int32.ofNat n_1)), .val (.int (Int32.ofNat n_2)), .unset] [(.int eLo), (.int eHi)]))
        by_cases hc32 : eLo < eHi
        · refine Gd.go (fun _ w_k => XS.icmpNo X_2.here hx rfl (hb hby at_194) rfl (tlt hc32).2.2.2 w_k) ?_
          show Gd _ _ _ _ (T_2.setTop (mkF m 197 #[.val (.int md), .val (.int r1), .val (.int r2), .val (.int r3), .val (.int r4), .val (.ref b1), .val (.int (1 : Int32)), .val (.double bt), .second, .val (.int tLo), .val (.int tHi), .val (.int eLo), .val (.int eHi), .val (.int o1), .val (.int o2), .val (.int o3), .val (.int o4), .val (.int (Int32.ofNat n_1)), .val (.int (Int32.ofNat n_2)), .unset] []))
          refine Gd.go (fun _ w_k => XS.aload X_2.here hx rfl (hb hby at_197) rfl rfl w_k) ?_
          show Gd _ _ _ _ (T_2.setTop (mkF m 199 #[.val (.int md), .val (.int r1), .val (.int r2), .val (.int r3), .val (.int r4), .val (.ref b1), .val (.int (1 : Int32)), .val (.double bt), .second, .val (.int tLo), .val (.int tHi), .val (.int eLo), .val (.int eHi), .val (.int o1), .val (.int o2), .val (.int o3), .val (.int o4), .val (.int (Int32.ofNat n_1)), .val (.int (Int32.ofNat n_2)), .unset] [(.ref b1)]))
          refine Gd.go (fun _ w_k => XS.iload X_2.here hx rfl (hb hby at_199) rfl w_k) ?_
          show Gd _ _ _ _ (T_2.setTop (mkF m 201 #[.val (.int md), .val (.int r1), .val (.int r2), .val (.int r3), .val (.int r4), .val (.ref b1), .val (.int (1 : Int32)), .val (.double bt), .second, .val (.int tLo), .val (.int tHi), .val (.int eLo), .val (.int eHi), .val (.int o1), .val (.int o2), .val (.int o3), .val (.int o4), .val (.int (Int32.ofNat n_1)), .val (.int (Int32.ofNat n_2)), .unset] [(.int eHi), (.ref b1)]))
          refine Gd.go (fun _ w_k => XS.dload X_2.here hx rfl (hb hby at_201) rfl w_k) ?_
          show Gd _ _ _ _ (T_2.setTop (mkF m 203 #[.val (.int md), .val (.int r1), .val (.int r2), .val (.int r3), .val (.int r4), .val (.ref b1), .val (.int (1 : Int32)), .val (.double bt), .second, .val (.int tLo), .val (.int tHi), .val (.int eLo), .val (.int eHi), .val (.int o1), .val (.int o2), .val (.int o3), .val (.int o4), .val (.int (Int32.ofNat n_1)), .val (.int (Int32.ofNat n_2)), .unset] [(.double bt), (.int eHi), (.ref b1)]))
          obtain ⟨v34, T34, L34, X34, hQ34, st34⟩ := own_callV X_2 hx hZ (C := "org/eventropy/core/SmallProbabilities") (y := (⟨"org/eventropy/core/SmallProbabilities", "addEnding", "(ID)V"⟩ : MethodName)) hown (hw _ (List.mem_of_getElem? (i := 76) rfl)) (hw _ (List.mem_of_getElem? (i := 77) rfl)) (hw _ (List.mem_of_getElem? (i := 79) rfl)) (hw _ (List.mem_of_getElem? (i := 78) rfl)) (hw _ (List.mem_of_getElem? (i := 2) rfl)) (hw _ (List.mem_of_getElem? (i := 80) rfl)) (by decide) H_2.exa (W := 0) (own_c14 l Z a0 hw b1 eHi bt n_1 n_2 f_1 f_2 (own_u2 q_2 hc29 hc32) T_2.heap n0 Z_2 H_2) rfl rfl rfl (by decide) (by decide) (g := (mkF m 203 #[.val (.int md), .val (.int r1), .val (.int r2), .val (.int r3), .val (.int r4), .val (.ref b1), .val (.int (1 : Int32)), .val (.double bt), .second, .val (.int tLo), .val (.int tHi), .val (.int eLo), .val (.int eHi), .val (.int o1), .val (.int o2), .val (.int o3), .val (.int o4), .val (.int (Int32.ofNat n_1)), .val (.int (Int32.ofNat n_2)), .unset] [(.double bt), (.int eHi), (.ref b1)])) rfl (by rw [hml]; rfl) (argsL := [(.int eHi), (.double bt)]) (rest := []) (lenOf own_pd6 rfl) rfl (Nat.le_of_eq rfl) (hb hby at_203) rfl (by decide) (by decide)
          obtain ⟨rfl, ⟨fd33, Hd33, qd33⟩, Zd33, Nd33⟩ := hQ34
          refine Gd.go (fun _ w_k => st34 _ w_k) ?_
          show Gd _ _ _ _ (T34.setTop (mkF m 206 #[.val (.int md), .val (.int r1), .val (.int r2), .val (.int r3), .val (.int r4), .val (.ref b1), .val (.int (1 : Int32)), .val (.double bt), .second, .val (.int tLo), .val (.int tHi), .val (.int eLo), .val (.int eHi), .val (.int o1), .val (.int o2), .val (.int o3), .val (.int o4), .val (.int (Int32.ofNat n_1)), .val (.int (Int32.ofNat n_2)), .unset] []))
          have NNd33 := Fr.app N_2 Nd33
          refine Gd.go (fun _ w_k => XS.iinc X34.here hx rfl (hb hby at_206) rfl (l' := #[.val (.int md), .val (.int r1), .val (.int r2), .val (.int r3), .val (.int r4), .val (.ref b1), .val (.int (1 : Int32)), .val (.double bt), .second, .val (.int tLo), .val (.int tHi), .val (.int eLo), .val (.int eHi), .val (.int o1), .val (.int o2), .val (.int o3), .val (.int o4), .val (.int (Int32.ofNat n_1)), .val (.int ((Int32.ofNat n_2) + (1 : Int32))), .unset]) rfl w_k) ?_
          show Gd _ _ _ _ (T34.setTop (mkF m 209 #[.val (.int md), .val (.int r1), .val (.int r2), .val (.int r3), .val (.int r4), .val (.ref b1), .val (.int (1 : Int32)), .val (.double bt), .second, .val (.int tLo), .val (.int tHi), .val (.int eLo), .val (.int eHi), .val (.int o1), .val (.int o2), .val (.int o3), .val (.int o4), .val (.int (Int32.ofNat n_1)), .val (.int ((Int32.ofNat n_2) + (1 : Int32))), .unset] []))
          have ei : ((Int32.ofNat n_2) + (1 : Int32)) = Int32.ofNat (n_2 + 1) := own_incN _
          rw [ei]
          exact J ⟨T34, _, (n_2 + 1), fd33⟩ ⟨X34, Hd33, NNd33, Zd33⟩
        · refine Gd.go (fun _ w_k => XS.icmpYes X_2.here hx rfl (pc0 := 194) (pc' := 209) rfl (hb hby at_194) rfl (flt hc32).2.2.2 (by decide) (by decide) w_k) ?_
          show Gd _ _ _ _ (T_2.setTop (mkF m 209 #[.val (.int md), .val (.int r1), .val (.int r2), .val (.int r3), .val (.int r4), .val (.ref b1), .val (.int (1 : Int32)), .val (.double bt), .second, .val (.int tLo), .val (.int tHi), .val (.int eLo), .val (.int eHi), .val (.int o1), .val (.int o2), .val (.int o3), .val (.int o4), .val (.int (Int32.ofNat n_1)), .val (.int (Int32.ofNat n_2)), .unset] []))
          exact J ⟨T_2, _, n_2, f_2⟩ ⟨(X_2.more (by decide) (by decide)), H_2, N_2, Z_2⟩
  obtain ⟨T_3, L_3, n_3, f_3⟩ := y
  obtain ⟨X_3, H_3, N_3, Z_3⟩ := hy
  dsimp only at X_3 H_3 N_3 Z_3 ⊢
  show Gd _ _ _ _ (T_3.setTop (mkF m 209 #[.val (.int md), .val (.int r1), .val (.int r2), .val (.int r3), .val (.int r4), .val (.ref b1), .val (.int (1 : Int32)), .val (.double bt), .second, .val (.int tLo), .val (.int tHi), .val (.int eLo), .val (.int eHi), .val (.int o1), .val (.int o2), .val (.int o3), .val (.int o4), .val (.int (Int32.ofNat n_1)), .val (.int (Int32.ofNat n_3)), .unset] []))
  refine Gd.via (S' := T_3.setTop (mkF m 224 #[.val (.int md), .val (.int r1), .val (.int r2), .val (.int r3), .val (.int r4), .val (.ref b1), .val (.int (1 : Int32)), .val (.double bt), .second, .val (.int tLo), .val (.int tHi), .val (.int eLo), .val (.int eHi), .val (.int o1), .val (.int o2), .val (.int o3), .val (.int o4), .val (.int (Int32.ofNat n_1)), .val (.int (Int32.ofNat n_3)), .unset] [(.int (bI (Int32.ofNat n_1 = 0 ∧ Int32.ofNat n_3 = 0)))])) (fun J35 => ?_) ?_
  · refine Gd.go (fun _ w_k => XS.iload X_3.here hx rfl (hb hby at_209) rfl w_k) ?_
    show Gd _ _ _ _ (T_3.setTop (mkF m 211 #[.val (.int md), .val (.int r1), .val (.int r2), .val (.int r3), .val (.int r4), .val (.ref b1), .val (.int (1 : Int32)), .val (.double bt), .second, .val (.int tLo), .val (.int tHi), .val (.int eLo), .val (.int eHi), .val (.int o1), .val (.int o2), .val (.int o3), .val (.int o4), .val (.int (Int32.ofNat n_1)), .val (.int (Int32.ofNat n_3)), .unset] [(.int (Int32.ofNat n_1))]))
    by_cases hc36 : (Int32.ofNat n_1) = (0 : Int32)
    · refine Gd.go (fun _ w_k => XS.ifNo X_3.here hx rfl (hb hby at_211) rfl ((if0 _ _).trans (teq hc36).2) w_k) ?_
      show Gd _ _ _ _ (T_3.setTop (mkF m 214 #[.val (.int md), .val (.int r1), .val (.int r2), .val (.int r3), .val (.int r4), .val (.ref b1), .val (.int (1 : Int32)), .val (.double bt), .second, .val (.int tLo), .val (.int tHi), .val (.int eLo), .val (.int eHi), .val (.int o1), .val (.int o2), .val (.int o3), .val (.int o4), .val (.int (Int32.ofNat n_1)), .val (.int (Int32.ofNat n_3)), .unset] []))
      refine Gd.go (fun _ w_k => XS.iload X_3.here hx rfl (hb hby at_214) rfl w_k) ?_
      show Gd _ _ _ _ (T_3.setTop (mkF m 216 #[.val (.int md), .val (.int r1), .val (.int r2), .val (.int r3), .val (.int r4), .val (.ref b1), .val (.int (1 : Int32)), .val (.double bt), .second, .val (.int tLo), .val (.int tHi), .val (.int eLo), .val (.int eHi), .val (.int o1), .val (.int o2), .val (.int o3), .val (.int o4), .val (.int (Int32.ofNat n_1)), .val (.int (Int32.ofNat n_3)), .unset] [(.int (Int32.ofNat n_3))]))
      by_cases hc37 : (Int32.ofNat n_3) = (0 : Int32)
      · refine Gd.go (fun _ w_k => XS.ifNo X_3.here hx rfl (hb hby at_216) rfl ((if0 _ _).trans (teq hc37).2) w_k) ?_
        show Gd _ _ _ _ (T_3.setTop (mkF m 219 #[.val (.int md), .val (.int r1), .val (.int r2), .val (.int r3), .val (.int r4), .val (.ref b1), .val (.int (1 : Int32)), .val (.double bt), .second, .val (.int tLo), .val (.int tHi), .val (.int eLo), .val (.int eHi), .val (.int o1), .val (.int o2), .val (.int o3), .val (.int o4), .val (.int (Int32.ofNat n_1)), .val (.int (Int32.ofNat n_3)), .unset] []))
        refine Gd.go (fun _ w_k => XS.iconst X_3.here hx rfl (hb hby at_219) w_k) ?_
        show Gd _ _ _ _ (T_3.setTop (mkF m 220 #[.val (.int md), .val (.int r1), .val (.int r2), .val (.int r3), .val (.int r4), .val (.ref b1), .val (.int (1 : Int32)), .val (.double bt), .second, .val (.int tLo), .val (.int tHi), .val (.int eLo), .val (.int eHi), .val (.int o1), .val (.int o2), .val (.int o3), .val (.int o4), .val (.int (Int32.ofNat n_1)), .val (.int (Int32.ofNat n_3)), .unset] [(.int (1 : Int32))]))
        refine Gd.go (fun _ w_k => XS.goto X_3.here hx rfl (pc0 := 220) (pc' := 224) rfl (hb hby at_220) (by decide) (by decide) w_k) ?_
        show Gd _ _ _ _ (T_3.setTop (mkF m 224 #[.val (.int md), .val (.int r1), .val (.int r2), .val (.int r3), .val (.int r4), .val (.ref b1), .val (.int (1 : Int32)), .val (.double bt), .second, .val (.int tLo), .val (.int tHi), .val (.int eLo), .val (.int eHi), .val (.int o1), .val (.int o2), .val (.int o3), .val (.int o4), .val (.int (Int32.ofNat n_1)), .val (.int (Int32.ofNat n_3)), .unset] [(.int (1 : Int32))]))
        have q38 : (bI (Int32.ofNat n_1 = 0 ∧ Int32.ofNat n_3 = 0)) = (1 : Int32) := bI_o ⟨hc36, hc37⟩
        rw [q38] at J35
        exact J35
      · refine Gd.go (fun _ w_k => XS.ifYes X_3.here hx rfl (pc0 := 216) (pc' := 223) rfl (hb hby at_216) rfl ((if0 _ _).trans (feq hc37).2) (by decide) (by decide) w_k) ?_
        show Gd _ _ _ _ (T_3.setTop (mkF m 223 #[.val (.int md), .val (.int r1), .val (.int r2), .val (.int r3), .val (.int r4), .val (.ref b1), .val (.int (1 : Int32)), .val (.double bt), .second, .val (.int tLo), .val (.int tHi), .val (.int eLo), .val (.int eHi), .val (.int o1), .val (.int o2), .val (.int o3), .val (.int o4), .val (.int (Int32.ofNat n_1)), .val (.int (Int32.ofNat n_3)), .unset] []))
        refine Gd.go (fun _ w_k => XS.iconst X_3.here hx rfl (hb hby at_223) w_k) ?_
        show Gd _ _ _ _ (T_3.setTop (mkF m 224 #[.val (.int md), .val (.int r1), .val (.int r2), .val (.int r3), .val (.int r4), .val (.ref b1), .val (.int (1 : Int32)), .val (.double bt), .second, .val (.int tLo), .val (.int tHi), .val (.int eLo), .val (.int eHi), .val (.int o1), .val (.int o2), .val (.int o3), .val (.int o4), .val (.int (Int32.ofNat n_1)), .val (.int (Int32.ofNat n_3)), .unset] [(.int (0 : Int32))]))
        have q39 : (bI (Int32.ofNat n_1 = 0 ∧ Int32.ofNat n_3 = 0)) = (0 : Int32) := bI_z (fun q => hc37 q.2)
        rw [q39] at J35
        exact J35
    · refine Gd.go (fun _ w_k => XS.ifYes X_3.here hx rfl (pc0 := 211) (pc' := 223) rfl (hb hby at_211) rfl ((if0 _ _).trans (feq hc36).2) (by decide) (by decide) w_k) ?_
      show Gd _ _ _ _ (T_3.setTop (mkF m 223 #[.val (.int md), .val (.int r1), .val (.int r2), .val (.int r3), .val (.int r4), .val (.ref b1), .val (.int (1 : Int32)), .val (.double bt), .second, .val (.int tLo), .val (.int tHi), .val (.int eLo), .val (.int eHi), .val (.int o1), .val (.int o2), .val (.int o3), .val (.int o4), .val (.int (Int32.ofNat n_1)), .val (.int (Int32.ofNat n_3)), .unset] []))
      refine Gd.go (fun _ w_k => XS.iconst X_3.here hx rfl (hb hby at_223) w_k) ?_
      show Gd _ _ _ _ (T_3.setTop (mkF m 224 #[.val (.int md), .val (.int r1), .val (.int r2), .val (.int r3), .val (.int r4), .val (.ref b1), .val (.int (1 : Int32)), .val (.double bt), .second, .val (.int tLo), .val (.int tHi), .val (.int eLo), .val (.int eHi), .val (.int o1), .val (.int o2), .val (.int o3), .val (.int o4), .val (.int (Int32.ofNat n_1)), .val (.int (Int32.ofNat n_3)), .unset] [(.int (0 : Int32))]))
      have q40 : (bI (Int32.ofNat n_1 = 0 ∧ Int32.ofNat n_3 = 0)) = (0 : Int32) := bI_z (fun q => hc36 q.1)
      rw [q40] at J35
      exact J35
  show Gd _ _ _ _ (T_3.setTop (mkF m 224 #[.val (.int md), .val (.int r1), .val (.int r2), .val (.int r3), .val (.int r4), .val (.ref b1), .val (.int (1 : Int32)), .val (.double bt), .second, .val (.int tLo), .val (.int tHi), .val (.int eLo), .val (.int eHi), .val (.int o1), .val (.int o2), .val (.int o3), .val (.int o4), .val (.int (Int32.ofNat n_1)), .val (.int (Int32.ofNat n_3)), .unset] [(.int (bI (Int32.ofNat n_1 = 0 ∧ Int32.ofNat n_3 = 0)))]))
  refine Gd.go (fun _ w_k => XS.istore X_3.here hx rfl (hb hby at_224) rfl (l' := #[.val (.int md), .val (.int r1), .val (.int r2), .val (.int r3), .val (.int r4), .val (.ref b1), .val (.int (1 : Int32)), .val (.double bt), .second, .val (.int tLo), .val (.int tHi), .val (.int eLo), .val (.int eHi), .val (.int o1), .val (.int o2), .val (.int o3), .val (.int o4), .val (.int (Int32.ofNat n_1)), .val (.int (Int32.ofNat n_3)), .val (.int (bI (Int32.ofNat n_1 = 0 ∧ Int32.ofNat n_3 = 0)))]) rfl w_k) ?_
  show Gd _ _ _ _ (T_3.setTop (mkF m 226 #[.val (.int md), .val (.int r1), .val (.int r2), .val (.int r3), .val (.int r4), .val (.ref b1), .val (.int (1 : Int32)), .val (.double bt), .second, .val (.int tLo), .val (.int tHi), .val (.int eLo), .val (.int eHi), .val (.int o1), .val (.int o2), .val (.int o3), .val (.int o4), .val (.int (Int32.ofNat n_1)), .val (.int (Int32.ofNat n_3)), .val (.int (bI (Int32.ofNat n_1 = 0 ∧ Int32.ofNat n_3 = 0)))] []))
  refine Gd.go (fun _ w_k => XS.iload X_3.here hx rfl (hb hby at_226) rfl w_k) ?_
  show Gd _ _ _ _ (T_3.setTop (mkF m 228 #[.val (.int md), .val (.int r1), .val (.int r2), .val (.int r3), .val (.int r4), .val (.ref b1), .val (.int (1 : Int32)), .val (.double bt), .second, .val (.int tLo), .val (.int tHi), .val (.int eLo), .val (.int eHi), .val (.int o1), .val (.int o2), .val (.int o3), .val (.int o4), .val (.int (Int32.ofNat n_1)), .val (.int (Int32.ofNat n_3)), .val (.int (bI (Int32.ofNat n_1 = 0 ∧ Int32.ofNat n_3 = 0)))] [(.int (1 : Int32))]))
  refine Gd.go (fun _ w_k => XS.ifNo X_3.here hx rfl (hb hby at_228) rfl ((if0 _ _).trans (feq (by decide)).1) w_k) ?_
  show Gd _ _ _ _ (T_3.setTop (mkF m 231 #[.val (.int md), .val (.int r1), .val (.int r2), .val (.int r3), .val (.int r4), .val (.ref b1), .val (.int (1 : Int32)), .val (.double bt), .second, .val (.int tLo), .val (.int tHi), .val (.int eLo), .val (.int eHi), .val (.int o1), .val (.int o2), .val (.int o3), .val (.int o4), .val (.int (Int32.ofNat n_1)), .val (.int (Int32.ofNat n_3)), .val (.int (bI (Int32.ofNat n_1 = 0 ∧ Int32.ofNat n_3 = 0)))] []))
  refine Gd.go (fun _ w_k => XS.aload X_3.here hx rfl (hb hby at_231) rfl rfl w_k) ?_
  show Gd _ _ _ _ (T_3.setTop (mkF m 233 #[.val (.int md), .val (.int r1), .val (.int r2), .val (.int r3), .val (.int r4), .val (.ref b1), .val (.int (1 : Int32)), .val (.double bt), .second, .val (.int tLo), .val (.int tHi), .val (.int eLo), .val (.int eHi), .val (.int o1), .val (.int o2), .val (.int o3), .val (.int o4), .val (.int (Int32.ofNat n_1)), .val (.int (Int32.ofNat n_3)), .val (.int (bI (Int32.ofNat n_1 = 0 ∧ Int32.ofNat n_3 = 0)))] [(.ref b1)]))
  obtain ⟨T41, X41, e41, st41⟩ := own_callVP X_3 hx hZ (C := "org/eventropy/core/SmallProbabilities") (y := (⟨"org/eventropy/core/SmallProbabilities", "isEmpty", "()Z"⟩ : MethodName)) hown (hw _ (List.mem_of_getElem? (i := 26) rfl)) (hw _ (List.mem_of_getElem? (i := 27) rfl)) (hw _ (List.mem_of_getElem? (i := 29) rfl)) (hw _ (List.mem_of_getElem? (i := 28) rfl)) (hw _ (List.mem_of_getElem? (i := 2) rfl)) (hw _ (List.mem_of_getElem? (i := 30) rfl)) (by decide) H_3.exa (W := 0) (own_c4 l Z a0 hw b1 n_1 n_3 f_1 f_3 T_3.heap n0 H_3) rfl rfl rfl (by decide) (by decide) (g := (mkF m 233 #[.val (.int md), .val (.int r1), .val (.int r2), .val (.int r3), .val (.int r4), .val (.ref b1), .val (.int (1 : Int32)), .val (.double bt), .second, .val (.int tLo), .val (.int tHi), .val (.int eLo), .val (.int eHi), .val (.int o1), .val (.int o2), .val (.int o3), .val (.int o4), .val (.int (Int32.ofNat n_1)), .val (.int (Int32.ofNat n_3)), .val (.int (bI (Int32.ofNat n_1 = 0 ∧ Int32.ofNat n_3 = 0)))] [(.ref b1)])) rfl (by rw [hml]; rfl) (argsL := []) (rest := []) (lenOf own_pd7 rfl) rfl (Nat.le_of_eq rfl) (hb hby at_233) rfl
  refine Gd.go (fun _ w_k => st41 _ w_k) ?_
  show Gd _ _ _ _ (T41.setTop (mkF m 236 #[.val (.int md), .val (.int r1), .val (.int r2), .val (.int r3), .val (.int r4), .val (.ref b1), .val (.int (1 : Int32)), .val (.double bt), .second, .val (.int tLo), .val (.int tHi), .val (.int eLo), .val (.int eHi), .val (.int o1), .val (.int o2), .val (.int o3), .val (.int o4), .val (.int (Int32.ofNat n_1)), .val (.int (Int32.ofNat n_3)), .val (.int (bI (Int32.ofNat n_1 = 0 ∧ Int32.ofNat n_3 = 0)))] [(.int (bI (Int32.ofNat n_1 = 0 ∧ Int32.ofNat n_3 = 0)))]))
  refine Gd.go (fun _ w_k => XS.iload X41.here hx rfl (hb hby at_236) rfl w_k) ?_
  show Gd _ _ _ _ (T41.setTop (mkF m 238 #[.val (.int md), .val (.int r1), .val (.int r2), .val (.int r3), .val (.int r4), .val (.ref b1), .val (.int (1 : Int32)), .val (.double bt), .second, .val (.int tLo), .val (.int tHi), .val (.int eLo), .val (.int eHi), .val (.int o1), .val (.int o2), .val (.int o3), .val (.int o4), .val (.int (Int32.ofNat n_1)), .val (.int (Int32.ofNat n_3)), .val (.int (bI (Int32.ofNat n_1 = 0 ∧ Int32.ofNat n_3 = 0)))] [(.int (bI (Int32.ofNat n_1 = 0 ∧ Int32.ofNat n_3 = 0))), (.int (bI (Int32.ofNat n_1 = 0 ∧ Int32.ofNat n_3 = 0)))]))
  refine Gd.go (fun _ w_k => XS.icmpNo X41.here hx rfl (hb hby at_238) rfl (teq rfl).2 w_k) ?_
  show Gd _ _ _ _ (T41.setTop (mkF m 241 #[.val (.int md), .val (.int r1), .val (.int r2), .val (.int r3), .val (.int r4), .val (.ref b1), .val (.int (1 : Int32)), .val (.double bt), .second, .val (.int tLo), .val (.int tHi), .val (.int eLo), .val (.int eHi), .val (.int o1), .val (.int o2), .val (.int o3), .val (.int o4), .val (.int (Int32.ofNat n_1)), .val (.int (Int32.ofNat n_3)), .val (.int (bI (Int32.ofNat n_1 = 0 ∧ Int32.ofNat n_3 = 0)))] []))
  refine Gd.go (fun _ w_k => XS.iconst X41.here hx rfl (hb hby at_241) w_k) ?_
  show Gd _ _ _ _ (T41.setTop (mkF m 242 #[.val (.int md), .val (.int r1), .val (.int r2), .val (.int r3), .val (.int r4), .val (.ref b1), .val (.int (1 : Int32)), .val (.double bt), .second, .val (.int tLo), .val (.int tHi), .val (.int eLo), .val (.int eHi), .val (.int o1), .val (.int o2), .val (.int o3), .val (.int o4), .val (.int (Int32.ofNat n_1)), .val (.int (Int32.ofNat n_3)), .val (.int (bI (Int32.ofNat n_1 = 0 ∧ Int32.ofNat n_3 = 0)))] [(.int (1 : Int32))]))
  refine Gd.go (fun _ w_k => XS.goto X41.here hx rfl (pc0 := 242) (pc' := 246) rfl (hb hby at_242) (by decide) (by decide) w_k) ?_
  show Gd _ _ _ _ (T41.setTop (mkF m 246 #[.val (.int md), .val (.int r1), .val (.int r2), .val (.int r3), .val (.int r4), .val (.ref b1), .val (.int (1 : Int32)), .val (.double bt), .second, .val (.int tLo), .val (.int tHi), .val (.int eLo), .val (.int eHi), .val (.int o1), .val (.int o2), .val (.int o3), .val (.int o4), .val (.int (Int32.ofNat n_1)), .val (.int (Int32.ofNat n_3)), .val (.int (bI (Int32.ofNat n_1 = 0 ∧ Int32.ofNat n_3 = 0)))] [(.int (1 : Int32))]))
  refine own_retN (t := .boolean) X41 hx hret hlk (by simp) (hb hby at_246) ?_ (by decide) (by decide)
  exact ⟨rfl, N_3⟩
set_option maxRecDepth 65536 in
set_option maxHeartbeats 40000000 in
theorem comes_1 {Post : Tables → Env → Array Value → State → Outcome → State → Prop} (hpost : ∀ tb e args s v u, (limb_1_1.after args s (.returned v) u = true ∧ limb_1_2.after args s (.returned v) u = true ∧ True) → FrameEnd s (.returned v) u (Jvm.fieldLocs frame_1_writes args s ++ Jvm.arrayLocs frame_1_arrays args s ++ Jvm.staticLocs frame_1_statics s) 40 128 → Post tb e args s (.returned v) u) :
    ArmFor flags0 classFile x code maxLocals ret World_1 tables_1 room_1 Calls_1 rest_1 Pre_1 Post := by
  intro l hfl _ _ p e ha hc hk s m args below hf hA hF happ hP
  obtain ⟨hcalls, hrest, hpre⟩ := hP
  obtain ⟨-, -, -, hnamed, -, -, -, hat⟩ := (Spec.applies_iff hf).mp happ
  obtain ⟨hg, hn⟩ := and_e (Cond.before_iff.mp (show (Jvm.Cond.and given_1 narrow_1).before args s = true from hpre))
  obtain ⟨h1, g0⟩ := and_e hg
  obtain ⟨k0, g1⟩ := and_e g0
  obtain ⟨k1, g2⟩ := and_e g1
  obtain ⟨k2, g3⟩ := and_e g2
  obtain ⟨k3, g4⟩ := and_e g3
  obtain ⟨w0, w1, w2, w3, w4, rfl⟩ : ∃ w0 w1 w2 w3 w4 : Value, args = #[w0, w1, w2, w3, w4] := by
    have hs : args.size = 5 := by simpa [Cond.value, given_1] using h1
    obtain ⟨L⟩ := args
    match L, hs with
    | [w0, w1, w2, w3, w4], _ => exact ⟨w0, w1, w2, w3, w4, rfl⟩
  have hw := fun d (hd : d ∈ tables_1) => atoms_spec (ws := Jvm.Cond.code x code maxLocals ret :: tables_1) hat d (List.mem_cons_of_mem _ hd)
  have hfit : Fit s := fun {y c} hc i hi => by
    obtain ⟨ha, rfl⟩ := Array.getElem?_eq_some_iff.mp hc
    have q := List.all_eq_true.mp ((Array.all_eq_true_iff_forall_mem.mp hF) _ (Array.getElem_mem ha)) i (List.mem_range.mpr hi)
    simpa [Array.getElem?_eq_getElem hi] using q
  obtain ⟨i0, e0⟩ := is_v k0
  obtain rfl : w0 = (.int i0) := Option.some.inj e0
  obtain ⟨i1, e1⟩ := is_v k1
  obtain rfl : w1 = (.int i1) := Option.some.inj e1
  obtain ⟨i2, e2⟩ := is_v k2
  obtain rfl : w2 = (.int i2) := Option.some.inj e2
  obtain ⟨i3, e3⟩ := is_v k3
  obtain rfl : w3 = (.int i3) := Option.some.inj e3
  obtain ⟨i4, e4⟩ := is_v g4
  obtain rfl : w4 = (.int i4) := Option.some.inj e4
  obtain ⟨n, o, h1, h2, h3, _, L, rfl, ⟨rfl, N⟩, hq⟩ := own_law l s _ hw i0 i1 i2 i3 i4 s.heap s.heap.size (Nat.le_refl _) p e ha hc hk s m _ below hf ((Spec.applies_iff_loose hf).mp happ).1 ⟨rfl, State.Warmed39.refl s, rfl⟩ trivial
  refine ⟨n, _, h1, h2, h3, hpost _ _ _ _ _ _ ⟨Cond.after_iff.mpr rfl, Cond.after_iff.mpr (eq_i res_at (Term.int_eval (1)) rfl), trivial⟩ ⟨hq.1, hq.2.1, (hq.2.2.sift fun y hy => Or.inr (N y hy)).mono (by decide) (by decide)⟩⟩
theorem main_1_1 : Claimed_1_1 := comes_1 fun _ _ _ _ _ _ h hF => ⟨h.1, hF⟩
theorem main_1_2 : Claimed_1_2 := comes_1 fun _ _ _ _ _ _ h hF => ⟨h.2.1, hF⟩
end Jvm.Pilot.@@N@@
namespace Jvm.Pilot.@@N@@
open Jvm Jvm.ClassFile Sem Op Lib Jvm.Free Jvm.Stand Jvm.Pilot.@@N@@.Jvm.D
/-! MADE BY PROGRAM (witnessworld.py) out of the Statement's table words and the real class files: 14 classes; the members and pool entries that the words name. The judged class is class 1, her method 1. -/
namespace start1
open Jvm.ClassFile
def u (s : String) : CpInfo := .utf8 (stringToUtf16 s)
/-- a pool by its gaps: so many unusable entries, then the entry; so many at the end -/
def gap : Nat → List CpInfo → List CpInfo
  | 0, r => r
  | n + 1, r => .unusable :: gap n r
def poolList (es : List (Nat × CpInfo)) (last : Nat) : List CpInfo := es.foldr (fun e r => gap e.1 (e.2 :: r)) (gap last [])
def pool (es : List (Nat × CpInfo)) (last : Nat) : Array CpInfo := ⟨poolList es last⟩
def fileOf (pool : Array CpInfo) (this : Nat) (attrs : Array Attribute := #[]) (ms : Array MethodInfo := #[]) (fl : Nat := 33) (sup : Nat := 0) (ifs : Array Nat := #[]) (fds : Array FieldInfo := #[]) : ClassFile where
  minorVersion := 0
  majorVersion := 65
  constantPool := pool
  accessFlags := fl
  thisClass := this
  superClass := sup
  interfaces := ifs
  fields := fds
  methods := ms
  attributes := attrs
def plain (name : String) (sup : Option ClassId) : Class where
  name := name
  kind := .ordinary
  loader := none
  accessFlags := 33
  super := sup
  interfaces := #[]
  cf := none
  fields := #[]
  methods := #[]
  instanceTypes := #[]
  staticTypes := #[]
  resolved := #[]
  callSites := []
  init := .initialized
  statics := none
  mirror := none

def pool0 : Array CpInfo := pool [(5, u "<init>"), (0, u "()V"), (1, .class_ 10), (1, u "java/lang/Object")] 113

def k0c0 : Code := { maxStack := 0, maxLocals := 1, code := object_method_1_code, exceptionTable := #[], attributes := #[] }
def k0m0 : Method := { name := "<init>", desc := "()V", sig := { parameters := [], returnType := none }, accessFlags := 1, code := some k0c0 }
/-- java/lang/Object -/
def k0 : Class := { plain "java/lang/Object" none with
  accessFlags := 33
  interfaces := #[]
  cf := some (fileOf pool0 8 #[] #[{ accessFlags := 1, nameIndex := 5, descriptorIndex := 6, attributes := #[] }] 33 0 #[] #[])
  fields := #[]
  methods := #[k0m0]
  instanceTypes := #[]
  staticTypes := #[]
  resolved := Array.replicate 124 none
  statics := none }

def pool1 : Array CpInfo := pool [(2, .class_ 4), (0, .nameAndType 5 6), (0, u "java/lang/Object"), (0, u "<init>"), (0, u "()V"), (0, .class_ 8), (0, u "org/eventropy/core/SmallProbabilities"), (0, .methodref 7 3), (0, .methodref 7 11), (0, .nameAndType 12 13), (0, u "isEmpty"), (0, u "()Z"), (0, .methodref 15 16), (0, .class_ 17), (0, .nameAndType 18 19), (0, u "java/lang/Math"), (0, u "min"), (0, u "(II)I"), (0, .methodref 15 21), (0, .nameAndType 22 19), (0, u "max"), (0, .methodref 7 24), (0, .nameAndType 25 26), (0, u "addTransition"), (0, u "(ID)V"), (0, .methodref 7 28), (0, .nameAndType 29 26), (0, u "addEnding"), (0, .class_ 31), (0, u "org/eventropy/core/SmallProbabilitiesIsEmptyPinLaw"), (2, u "law"), (0, u "(IIIII)Z")] 3

def k1m0 : Method := { name := "<init>", desc := "()V", sig := { parameters := [], returnType := none }, accessFlags := 1, code := none }
def k1c1 : Code := { maxStack := 4, maxLocals := 20, code := code, exceptionTable := #[], attributes := #[] }
def k1m1 : Method := { name := "law", desc := "(IIIII)Z", sig := { parameters := [.int, .int, .int, .int, .int], returnType := some .boolean }, accessFlags := 9, code := some k1c1 }
/-- org/eventropy/core/SmallProbabilitiesIsEmptyPinLaw -/
def k1 : Class := { plain "org/eventropy/core/SmallProbabilitiesIsEmptyPinLaw" (some 0) with
  accessFlags := 49
  interfaces := #[]
  cf := some (fileOf pool1 30 #[] #[{ accessFlags := 1, nameIndex := 5, descriptorIndex := 6, attributes := #[] }, { accessFlags := 9, nameIndex := 34, descriptorIndex := 35, attributes := #[] }] 49 2 #[] #[])
  fields := #[]
  methods := #[k1m0, k1m1]
  instanceTypes := #[]
  staticTypes := #[]
  resolved := Array.replicate 39 none
  statics := none }

def pool2 : Array CpInfo := pool [(1, .methodref 2 3), (0, .class_ 4), (0, .nameAndType 5 6), (0, u "java/lang/Object"), (0, u "<init>"), (0, u "()V"), (0, .class_ 8), (0, u "org/eventropy/core/SmallProbabilities$Keyed"), (0, .methodref 7 3), (0, .fieldref 11 12), (0, .class_ 13), (0, .nameAndType 14 15), (0, u "org/eventropy/core/SmallProbabilities"), (0, u "transitions"), (0, u "Lorg/eventropy/core/SmallProbabilities$Keyed;"), (0, .fieldref 11 17), (0, .nameAndType 18 15), (0, u "endings"), (4, .methodref 7 24), (0, .nameAndType 25 26), (0, u "add"), (0, u "(ID)V"), (0, .fieldref 7 28), (0, .nameAndType 29 30), (0, u "size"), (0, u "I"), (13, u "addTransition"), (0, u "addEnding"), (0, u "isEmpty"), (0, u "()Z")] 11

def k2c0 : Code := { maxStack := 3, maxLocals := 1, code := prog_48_method_1_code, exceptionTable := #[], attributes := #[] }
def k2m0 : Method := { name := "<init>", desc := "()V", sig := { parameters := [], returnType := none }, accessFlags := 0, code := some k2c0 }
def k2c1 : Code := { maxStack := 4, maxLocals := 4, code := prog_48_method_3_code, exceptionTable := #[], attributes := #[] }
def k2m1 : Method := { name := "addTransition", desc := "(ID)V", sig := { parameters := [.int, .double], returnType := none }, accessFlags := 0, code := some k2c1 }
def k2c2 : Code := { maxStack := 4, maxLocals := 4, code := prog_48_method_4_code, exceptionTable := #[], attributes := #[] }
def k2m2 : Method := { name := "addEnding", desc := "(ID)V", sig := { parameters := [.int, .double], returnType := none }, accessFlags := 0, code := some k2c2 }
def k2c3 : Code := { maxStack := 1, maxLocals := 1, code := prog_48_method_5_code, exceptionTable := #[], attributes := #[] }
def k2m3 : Method := { name := "isEmpty", desc := "()Z", sig := { parameters := [], returnType := some .boolean }, accessFlags := 0, code := some k2c3 }
/-- org/eventropy/core/SmallProbabilities -/
def k2 : Class := { plain "org/eventropy/core/SmallProbabilities" (some 0) with
  accessFlags := 48
  interfaces := #[]
  cf := some (fileOf pool2 11 #[.nestMembers #[7]] #[{ accessFlags := 0, nameIndex := 5, descriptorIndex := 6, attributes := #[] }, { accessFlags := 0, nameIndex := 44, descriptorIndex := 26, attributes := #[] }, { accessFlags := 0, nameIndex := 45, descriptorIndex := 26, attributes := #[] }, { accessFlags := 0, nameIndex := 46, descriptorIndex := 47, attributes := #[] }] 48 2 #[] #[{ accessFlags := 18, nameIndex := 14, descriptorIndex := 15, attributes := #[] }, { accessFlags := 18, nameIndex := 18, descriptorIndex := 15, attributes := #[] }])
  fields := #[{ name := "transitions", type := (.object "org/eventropy/core/SmallProbabilities$Keyed"), accessFlags := 18, slot := 0, constantValue := 0 }, { name := "endings", type := (.object "org/eventropy/core/SmallProbabilities$Keyed"), accessFlags := 18, slot := 1, constantValue := 0 }]
  methods := #[k2m0, k2m1, k2m2, k2m3]
  instanceTypes := #[(.object "org/eventropy/core/SmallProbabilities$Keyed"), (.object "org/eventropy/core/SmallProbabilities$Keyed")]
  staticTypes := #[]
  resolved := (((Array.replicate 59 none).setIfInBounds 7 (some (.cls 3))).setIfInBounds 9 (some (.method ⟨3, 0⟩))).setIfInBounds 27 (some (.field 3 2))
  statics := none }

def pool3 : Array CpInfo := pool [(1, .methodref 2 3), (0, .class_ 4), (0, .nameAndType 5 6), (0, u "java/lang/Object"), (0, u "<init>"), (0, u "()V"), (0, .fieldref 8 9), (0, .class_ 10), (0, .nameAndType 11 12), (0, u "org/eventropy/core/SmallProbabilities$Keyed"), (0, u "keys"), (0, u "[I"), (0, .fieldref 8 14), (0, .nameAndType 15 16), (0, u "bits"), (0, u "[D"), (0, .fieldref 8 18), (0, .nameAndType 19 20), (0, u "size"), (0, u "I"), (9, .methodref 31 32), (0, .class_ 33), (0, .nameAndType 34 35), (0, u "org/eventropy/core/AutomatonLayout"), (0, u "grown"), (0, u "(I)I"), (0, .methodref 37 38), (0, .class_ 39), (0, .nameAndType 40 41), (0, u "java/util/Arrays"), (0, u "copyOf"), (0, u "([II)[I"), (0, .methodref 37 43), (0, .nameAndType 40 44), (0, u "([DI)[D"), (6, u "add"), (0, u "(ID)V"), (5, .class_ 59), (0, u "org/eventropy/core/SmallProbabilities")] 16

def k3c0 : Code := { maxStack := 2, maxLocals := 1, code := prog_49_method_1_code, exceptionTable := #[], attributes := #[] }
def k3m0 : Method := { name := "<init>", desc := "()V", sig := { parameters := [], returnType := none }, accessFlags := 2, code := some k3c0 }
def k3c1 : Code := { maxStack := 6, maxLocals := 5, code := prog_49_method_2_code, exceptionTable := #[], attributes := #[] }
def k3m1 : Method := { name := "add", desc := "(ID)V", sig := { parameters := [.int, .double], returnType := none }, accessFlags := 0, code := some k3c1 }
/-- org/eventropy/core/SmallProbabilities$Keyed -/
def k3 : Class := { plain "org/eventropy/core/SmallProbabilities$Keyed" (some 0) with
  accessFlags := 48
  interfaces := #[]
  cf := some (fileOf pool3 8 #[.nestHost 58] #[{ accessFlags := 2, nameIndex := 5, descriptorIndex := 6, attributes := #[] }, { accessFlags := 0, nameIndex := 51, descriptorIndex := 52, attributes := #[] }] 48 2 #[] #[{ accessFlags := 2, nameIndex := 11, descriptorIndex := 12, attributes := #[] }, { accessFlags := 2, nameIndex := 15, descriptorIndex := 16, attributes := #[] }, { accessFlags := 2, nameIndex := 19, descriptorIndex := 20, attributes := #[] }])
  fields := #[{ name := "keys", type := (.array .int), accessFlags := 2, slot := 0, constantValue := 0 }, { name := "bits", type := (.array .double), accessFlags := 2, slot := 1, constantValue := 0 }, { name := "size", type := .int, accessFlags := 2, slot := 2, constantValue := 0 }]
  methods := #[k3m0, k3m1]
  instanceTypes := #[(.array .int), (.array .double), .int]
  staticTypes := #[]
  resolved := Array.replicate 76 none
  statics := none }

def pool4 : Array CpInfo := pool [(1, .class_ 2), (0, u "java/lang/Math"), (1, .class_ 6), (1, u "java/lang/Object"), (0, u "<init>"), (0, u "()V"), (89, .class_ 100), (1, u "java/lang/Math$RandomNumberGeneratorHolder"), (20, u "(JJ)J"), (50, u "negativeZeroFloatBits"), (0, u "J"), (2, u "negativeZeroDoubleBits"), (21, u "max"), (2, u "min"), (43, u "$assertionsDisabled"), (0, u "Z"), (88, u "(II)I"), (2, u "twoToTheDoubleScaleDown"), (0, u "D"), (4, u "twoToTheDoubleScaleUp"), (9, u "E"), (3, u "PI"), (2, u "TAU"), (2, u "DEGREES_TO_RADIANS"), (0, u "RADIANS_TO_DEGREES")] 94

def k4m0 : Method := { name := "<init>", desc := "()V", sig := { parameters := [], returnType := none }, accessFlags := 2, code := none }
def k4c1 : Code := { maxStack := 2, maxLocals := 2, code := jdk_29_method_65_code, exceptionTable := #[], attributes := #[] }
def k4m1 : Method := { name := "max", desc := "(II)I", sig := { parameters := [.int, .int], returnType := some .int }, accessFlags := 9, code := some k4c1 }
def k4c2 : Code := { maxStack := 4, maxLocals := 4, code := jdk_29_method_66_code, exceptionTable := #[], attributes := #[] }
def k4m2 : Method := { name := "max", desc := "(JJ)J", sig := { parameters := [.long, .long], returnType := some .long }, accessFlags := 9, code := some k4c2 }
def k4c3 : Code := { maxStack := 2, maxLocals := 2, code := jdk_29_method_69_code, exceptionTable := #[], attributes := #[] }
def k4m3 : Method := { name := "min", desc := "(II)I", sig := { parameters := [.int, .int], returnType := some .int }, accessFlags := 9, code := some k4c3 }
def k4c4 : Code := { maxStack := 4, maxLocals := 4, code := jdk_29_method_70_code, exceptionTable := #[], attributes := #[] }
def k4m4 : Method := { name := "min", desc := "(JJ)J", sig := { parameters := [.long, .long], returnType := some .long }, accessFlags := 9, code := some k4c4 }
/-- java/lang/Math -/
def k4 : Class := { plain "java/lang/Math" (some 0) with
  accessFlags := 49
  interfaces := #[]
  cf := some (fileOf pool4 1 #[.nestMembers #[98]] #[{ accessFlags := 2, nameIndex := 7, descriptorIndex := 8, attributes := #[] }, { accessFlags := 9, nameIndex := 198, descriptorIndex := 335, attributes := #[] }, { accessFlags := 9, nameIndex := 198, descriptorIndex := 121, attributes := #[] }, { accessFlags := 9, nameIndex := 201, descriptorIndex := 335, attributes := #[] }, { accessFlags := 9, nameIndex := 201, descriptorIndex := 121, attributes := #[] }] 49 4 #[] #[{ accessFlags := 25, nameIndex := 354, descriptorIndex := 339, attributes := #[] }, { accessFlags := 25, nameIndex := 358, descriptorIndex := 339, attributes := #[] }, { accessFlags := 25, nameIndex := 361, descriptorIndex := 339, attributes := #[] }, { accessFlags := 26, nameIndex := 364, descriptorIndex := 339, attributes := #[] }, { accessFlags := 26, nameIndex := 365, descriptorIndex := 339, attributes := #[] }, { accessFlags := 26, nameIndex := 172, descriptorIndex := 173, attributes := #[] }, { accessFlags := 26, nameIndex := 176, descriptorIndex := 173, attributes := #[] }, { accessFlags := 8, nameIndex := 344, descriptorIndex := 339, attributes := #[] }, { accessFlags := 8, nameIndex := 338, descriptorIndex := 339, attributes := #[] }, { accessFlags := 4120, nameIndex := 245, descriptorIndex := 246, attributes := #[] }])
  fields := #[{ name := "E", type := .double, accessFlags := 25, slot := 0, constantValue := 0 }, { name := "PI", type := .double, accessFlags := 25, slot := 1, constantValue := 0 }, { name := "TAU", type := .double, accessFlags := 25, slot := 2, constantValue := 0 }, { name := "DEGREES_TO_RADIANS", type := .double, accessFlags := 26, slot := 3, constantValue := 0 }, { name := "RADIANS_TO_DEGREES", type := .double, accessFlags := 26, slot := 4, constantValue := 0 }, { name := "negativeZeroFloatBits", type := .long, accessFlags := 26, slot := 5, constantValue := 0 }, { name := "negativeZeroDoubleBits", type := .long, accessFlags := 26, slot := 6, constantValue := 0 }, { name := "twoToTheDoubleScaleUp", type := .double, accessFlags := 8, slot := 7, constantValue := 0 }, { name := "twoToTheDoubleScaleDown", type := .double, accessFlags := 8, slot := 8, constantValue := 0 }, { name := "$assertionsDisabled", type := .boolean, accessFlags := 4120, slot := 9, constantValue := 0 }]
  methods := #[k4m0, k4m1, k4m2, k4m3, k4m4]
  instanceTypes := #[]
  staticTypes := #[.double, .double, .double, .double, .double, .long, .long, .double, .double, .boolean]
  resolved := Array.replicate 460 none
  statics := none }

def pool5 : Array CpInfo := pool [(3, .class_ 4), (0, u "org/eventropy/core/AutomatonLayout"), (5, .class_ 12), (1, u "java/lang/Object"), (6, u "small"), (0, u "Lorg/eventropy/core/SmallProbabilities;"), (2, u "labels"), (0, u "Lorg/eventropy/log/ActivityAlphabet;"), (2, u "first"), (0, u "[I"), (2, u "endings"), (0, u "[D"), (2, u "codes"), (2, u "targets"), (2, u "probabilities"), (2, u "size"), (0, u "I"), (2, u "states"), (11, u "grown"), (0, u "(I)I"), (38, .integer 2147483639), (1, .long 2), (1, .methodref 105 106), (0, .class_ 107), (0, .nameAndType 108 109), (0, u "java/lang/Math"), (0, u "max"), (0, u "(JJ)J"), (0, .long 2147483639), (1, .methodref 105 113), (0, .nameAndType 114 109), (0, u "min"), (0, u "INITIAL_CAPACITY"), (2, u "MAX_LENGTH")] 43

def k5c0 : Code := { maxStack := 6, maxLocals := 1, code := prog_19_method_11_code, exceptionTable := #[], attributes := #[] }
def k5m0 : Method := { name := "grown", desc := "(I)I", sig := { parameters := [.int], returnType := some .int }, accessFlags := 8, code := some k5c0 }
/-- org/eventropy/core/AutomatonLayout -/
def k5 : Class := { plain "org/eventropy/core/AutomatonLayout" (some 0) with
  accessFlags := 48
  interfaces := #[]
  cf := some (fileOf pool5 3 #[] #[{ accessFlags := 8, nameIndex := 60, descriptorIndex := 61, attributes := #[] }] 48 10 #[] #[{ accessFlags := 26, nameIndex := 115, descriptorIndex := 45, attributes := #[] }, { accessFlags := 26, nameIndex := 118, descriptorIndex := 45, attributes := #[] }, { accessFlags := 18, nameIndex := 23, descriptorIndex := 24, attributes := #[] }, { accessFlags := 2, nameIndex := 27, descriptorIndex := 28, attributes := #[] }, { accessFlags := 2, nameIndex := 31, descriptorIndex := 32, attributes := #[] }, { accessFlags := 2, nameIndex := 48, descriptorIndex := 45, attributes := #[] }, { accessFlags := 2, nameIndex := 35, descriptorIndex := 28, attributes := #[] }, { accessFlags := 2, nameIndex := 38, descriptorIndex := 28, attributes := #[] }, { accessFlags := 2, nameIndex := 41, descriptorIndex := 32, attributes := #[] }, { accessFlags := 2, nameIndex := 44, descriptorIndex := 45, attributes := #[] }, { accessFlags := 18, nameIndex := 19, descriptorIndex := 20, attributes := #[] }])
  fields := #[{ name := "INITIAL_CAPACITY", type := .int, accessFlags := 26, slot := 0, constantValue := 0 }, { name := "MAX_LENGTH", type := .int, accessFlags := 26, slot := 1, constantValue := 0 }, { name := "labels", type := (.object "org/eventropy/log/ActivityAlphabet"), accessFlags := 18, slot := 0, constantValue := 0 }, { name := "first", type := (.array .int), accessFlags := 2, slot := 1, constantValue := 0 }, { name := "endings", type := (.array .double), accessFlags := 2, slot := 2, constantValue := 0 }, { name := "states", type := .int, accessFlags := 2, slot := 3, constantValue := 0 }, { name := "codes", type := (.array .int), accessFlags := 2, slot := 4, constantValue := 0 }, { name := "targets", type := (.array .int), accessFlags := 2, slot := 5, constantValue := 0 }, { name := "probabilities", type := (.array .double), accessFlags := 2, slot := 6, constantValue := 0 }, { name := "size", type := .int, accessFlags := 2, slot := 7, constantValue := 0 }, { name := "small", type := (.object "org/eventropy/core/SmallProbabilities"), accessFlags := 18, slot := 8, constantValue := 0 }]
  methods := #[k5m0]
  instanceTypes := #[(.object "org/eventropy/log/ActivityAlphabet"), (.array .int), (.array .double), .int, (.array .int), (.array .int), (.array .double), .int, (.object "org/eventropy/core/SmallProbabilities")]
  staticTypes := #[.int, .int]
  resolved := Array.replicate 162 none
  statics := none }

def pool6 : Array CpInfo := pool [(2, .class_ 4), (1, u "java/lang/Object"), (0, u "<init>"), (0, u "()V"), (7, .class_ 16), (1, u "java/util/Arrays"), (57, .class_ 76), (1, u "java/util/Arrays$NaturalOrder"), (36, .class_ 115), (1, u "java/util/Arrays$LegacyMergeSort"), (1, u "Z"), (32, .methodref 151 152), (0, .class_ 153), (0, .nameAndType 154 155), (0, u "java/lang/System"), (0, u "arraycopy"), (0, u "(Ljava/lang/Object;ILjava/lang/Object;II)V"), (146, u "copyOf"), (1, .methodref 305 306), (0, .class_ 307), (0, .nameAndType 308 309), (0, u "java/lang/Math"), (0, u "min"), (0, u "(II)I"), (65, .class_ 376), (0, u "java/util/Arrays$ArrayList"), (68, u "$assertionsDisabled"), (269, u "MIN_ARRAY_SORT_GRAN"), (0, u "I"), (2, u "INSERTIONSORT_THRESHOLD"), (151, u "([II)[I"), (3, u "([DI)[D"), (99, .class_ 976), (0, u "java/util/Arrays$ArrayItr")] 52

def k6m0 : Method := { name := "<init>", desc := "()V", sig := { parameters := [], returnType := none }, accessFlags := 2, code := none }
def k6c1 : Code := { maxStack := 6, maxLocals := 3, code := jdk_65_method_123_code, exceptionTable := #[], attributes := #[] }
def k6m1 : Method := { name := "copyOf", desc := "([II)[I", sig := { parameters := [(.array .int), .int], returnType := some (.array .int) }, accessFlags := 9, code := some k6c1 }
def k6c2 : Code := { maxStack := 6, maxLocals := 3, code := jdk_65_method_127_code, exceptionTable := #[], attributes := #[] }
def k6m2 : Method := { name := "copyOf", desc := "([DI)[D", sig := { parameters := [(.array .double), .int], returnType := some (.array .double) }, accessFlags := 9, code := some k6c2 }
/-- java/util/Arrays -/
def k6 : Class := { plain "java/util/Arrays" (some 0) with
  accessFlags := 49
  interfaces := #[]
  cf := some (fileOf pool6 14 #[.nestMembers #[975, 375, 113, 74]] #[{ accessFlags := 2, nameIndex := 5, descriptorIndex := 6, attributes := #[] }, { accessFlags := 9, nameIndex := 302, descriptorIndex := 871, attributes := #[] }, { accessFlags := 9, nameIndex := 302, descriptorIndex := 875, attributes := #[] }] 49 2 #[] #[{ accessFlags := 26, nameIndex := 715, descriptorIndex := 716, attributes := #[] }, { accessFlags := 26, nameIndex := 719, descriptorIndex := 716, attributes := #[] }, { accessFlags := 4120, nameIndex := 445, descriptorIndex := 117, attributes := #[] }])
  fields := #[{ name := "MIN_ARRAY_SORT_GRAN", type := .int, accessFlags := 26, slot := 0, constantValue := 0 }, { name := "INSERTIONSORT_THRESHOLD", type := .int, accessFlags := 26, slot := 1, constantValue := 0 }, { name := "$assertionsDisabled", type := .boolean, accessFlags := 4120, slot := 2, constantValue := 0 }]
  methods := #[k6m0, k6m1, k6m2]
  instanceTypes := #[]
  staticTypes := #[.int, .int, .boolean]
  resolved := Array.replicate 1029 none
  statics := none }

def pool7 : Array CpInfo := pool [(2, .class_ 4), (1, u "java/lang/Object"), (0, u "<init>"), (0, u "()V"), (1, .class_ 10), (1, u "java/lang/System"), (0, u "allowSecurityManager"), (0, u "I"), (16, u "cons"), (0, u "Ljava/io/Console;"), (77, .class_ 110), (1, u "java/lang/System$CallersHolder"), (43, u "initialErrStream"), (0, u "Ljava/io/PrintStream;"), (19, u "security"), (0, u "Ljava/lang/SecurityManager;"), (31, .class_ 209), (0, u "java/lang/System$1"), (7, u "props"), (0, u "Ljava/util/Properties;"), (2, u "lineSeparator"), (0, u "Ljava/lang/String;"), (96, .class_ 321), (1, u "java/lang/System$LoggerFinder"), (5, .class_ 328), (0, u "java/lang/System$Logger"), (67, u "err"), (2, u "out"), (91, u "notSupportedJnuEncoding"), (15, u "in"), (17, u "initialIn"), (0, u "Ljava/io/InputStream;"), (35, u "bootLayer"), (0, u "Ljava/lang/ModuleLayer;"), (99, .class_ 664), (0, u "java/lang/System$2"), (9, u "NEVER"), (2, u "MAYBE"), (49, u "arraycopy"), (0, u "(Ljava/lang/Object;ILjava/lang/Object;II)V"), (72, .class_ 802), (0, u "java/lang/System$Logger$Level")] 31

def k7m0 : Method := { name := "<init>", desc := "()V", sig := { parameters := [], returnType := none }, accessFlags := 2, code := none }
def k7m1 : Method := { name := "arraycopy", desc := "(Ljava/lang/Object;ILjava/lang/Object;II)V", sig := { parameters := [(.object "java/lang/Object"), .int, (.object "java/lang/Object"), .int, .int], returnType := none }, accessFlags := 265, code := none }
/-- java/lang/System -/
def k7 : Class := { plain "java/lang/System" (some 0) with
  accessFlags := 49
  interfaces := #[]
  cf := some (fileOf pool7 8 #[.nestMembers #[319, 327, 801, 108, 663, 208]] #[{ accessFlags := 2, nameIndex := 5, descriptorIndex := 6, attributes := #[] }, { accessFlags := 265, nameIndex := 727, descriptorIndex := 728, attributes := #[] }] 49 2 #[] #[{ accessFlags := 25, nameIndex := 507, descriptorIndex := 526, attributes := #[] }, { accessFlags := 25, nameIndex := 399, descriptorIndex := 155, attributes := #[] }, { accessFlags := 25, nameIndex := 396, descriptorIndex := 155, attributes := #[] }, { accessFlags := 10, nameIndex := 525, descriptorIndex := 526, attributes := #[] }, { accessFlags := 26, nameIndex := 674, descriptorIndex := 12, attributes := #[] }, { accessFlags := 26, nameIndex := 677, descriptorIndex := 12, attributes := #[] }, { accessFlags := 10, nameIndex := 11, descriptorIndex := 12, attributes := #[] }, { accessFlags := 74, nameIndex := 175, descriptorIndex := 176, attributes := #[] }, { accessFlags := 10, nameIndex := 491, descriptorIndex := 222, attributes := #[] }, { accessFlags := 74, nameIndex := 29, descriptorIndex := 30, attributes := #[] }, { accessFlags := 74, nameIndex := 154, descriptorIndex := 155, attributes := #[] }, { accessFlags := 10, nameIndex := 217, descriptorIndex := 218, attributes := #[] }, { accessFlags := 10, nameIndex := 221, descriptorIndex := 222, attributes := #[] }, { accessFlags := 8, nameIndex := 562, descriptorIndex := 563, attributes := #[] }])
  fields := #[{ name := "in", type := (.object "java/io/InputStream"), accessFlags := 25, slot := 0, constantValue := 0 }, { name := "out", type := (.object "java/io/PrintStream"), accessFlags := 25, slot := 1, constantValue := 0 }, { name := "err", type := (.object "java/io/PrintStream"), accessFlags := 25, slot := 2, constantValue := 0 }, { name := "initialIn", type := (.object "java/io/InputStream"), accessFlags := 10, slot := 3, constantValue := 0 }, { name := "NEVER", type := .int, accessFlags := 26, slot := 4, constantValue := 0 }, { name := "MAYBE", type := .int, accessFlags := 26, slot := 5, constantValue := 0 }, { name := "allowSecurityManager", type := .int, accessFlags := 10, slot := 6, constantValue := 0 }, { name := "security", type := (.object "java/lang/SecurityManager"), accessFlags := 74, slot := 7, constantValue := 0 }, { name := "notSupportedJnuEncoding", type := (.object "java/lang/String"), accessFlags := 10, slot := 8, constantValue := 0 }, { name := "cons", type := (.object "java/io/Console"), accessFlags := 74, slot := 9, constantValue := 0 }, { name := "initialErrStream", type := (.object "java/io/PrintStream"), accessFlags := 74, slot := 10, constantValue := 0 }, { name := "props", type := (.object "java/util/Properties"), accessFlags := 10, slot := 11, constantValue := 0 }, { name := "lineSeparator", type := (.object "java/lang/String"), accessFlags := 10, slot := 12, constantValue := 0 }, { name := "bootLayer", type := (.object "java/lang/ModuleLayer"), accessFlags := 8, slot := 13, constantValue := 0 }]
  methods := #[k7m0, k7m1]
  instanceTypes := #[]
  staticTypes := #[(.object "java/io/InputStream"), (.object "java/io/PrintStream"), (.object "java/io/PrintStream"), (.object "java/io/InputStream"), .int, .int, .int, (.object "java/lang/SecurityManager"), (.object "java/lang/String"), (.object "java/io/Console"), (.object "java/io/PrintStream"), (.object "java/util/Properties"), (.object "java/lang/String"), (.object "java/lang/ModuleLayer")]
  resolved := Array.replicate 834 none
  statics := none }

def pool8 : Array CpInfo := pool [(1, u "java/lang/Cloneable"), (0, .class_ 1), (0, u "java/lang/Object"), (0, .class_ 3)] 3

/-- java/lang/Cloneable -/
def k8 : Class := { plain "java/lang/Cloneable" (some 0) with
  accessFlags := 1537
  interfaces := #[]
  cf := some (fileOf pool8 2 #[] #[] 1537 4 #[] #[])
  fields := #[]
  methods := #[]
  instanceTypes := #[]
  staticTypes := #[]
  resolved := Array.replicate 8 none
  statics := none }

def pool9 : Array CpInfo := pool [(1, u "java/io/Serializable"), (0, .class_ 1), (0, u "java/lang/Object"), (0, .class_ 3)] 3

/-- java/io/Serializable -/
def k9 : Class := { plain "java/io/Serializable" (some 0) with
  accessFlags := 1537
  interfaces := #[]
  cf := some (fileOf pool9 2 #[] #[] 1537 4 #[] #[])
  fields := #[]
  methods := #[]
  instanceTypes := #[]
  staticTypes := #[]
  resolved := Array.replicate 8 none
  statics := none }

/-- the primitive byte -/
def k10 : Class := { plain "byte" none with kind := .primitive 'B', accessFlags := 0x411 }
/-- [B -/
def k11 : Class := { plain "[B" (some 0) with kind := .array 10 .byte, interfaces := #[8, 9], accessFlags := 1041 }

/-- the primitive int -/
def k12 : Class := { plain "int" none with kind := .primitive 'I', accessFlags := 0x411 }
/-- [I -/
def k13 : Class := { plain "[I" (some 0) with kind := .array 12 .int, interfaces := #[8, 9], accessFlags := 1041 }

/-- the primitive double -/
def k14 : Class := { plain "double" none with kind := .primitive 'D', accessFlags := 0x411 }
/-- [D -/
def k15 : Class := { plain "[D" (some 0) with kind := .array 14 .double, interfaces := #[8, 9], accessFlags := 1041 }
def heap : Heap := #[]
def classes : Array Class := #[k0, k1, k2, k3, k4, k5, k6, k7, k8, k9, k10, k11, k12, k13, k14, k15]
def interned : List (Array UInt16 × Addr) := []
def slotsUsed : Nat := 0
def theMethod : MethodId := ⟨1, 1⟩
def args0 : Array Value := #[.int 3, .int 2, .int 5, .int 1, .int 7]
def aboutOver (below : List Frame) : State where
  vm := { classes := classes, interned := interned.toArray }
  heap := heap
  slotsUsed := slotsUsed
  threads := #[{ frames := .invoking theMethod args0 :: below }]
def below0 : List Frame := [.native { method := ⟨0, 0⟩, args := #[] }]
def about1 : State := aboutOver below0
def p0 : Program := .bare "" "" ""
def e0 : Env := launch0.env 0 0 0
theorem w_frames : about1.frames = Frame.invoking theMethod args0 :: below0 := rfl
set_option maxRecDepth 65536 in
theorem w_args : argsFit about1.vm theMethod args0 = true := by decide +kernel
set_option maxRecDepth 65536 in
theorem w_heap : heapFits about1 = true := by decide +kernel
set_option maxRecDepth 65536 in
theorem w_runnable : about1.curStatus? = some .runnable := by decide +kernel
set_option maxRecDepth 65536 in
theorem w_alone : about1.alone = true := by decide +kernel
set_option maxRecDepth 65536 in
theorem w_named : about1.methodNamed? x = some theMethod := by decide +kernel
set_option maxRecDepth 65536 in
theorem w_hears : about1.hears theMethod below0 = true := by decide +kernel
set_option maxRecDepth 65536 in
theorem w_ripe : about1.ripe theMethod args0 below0 = true := by decide +kernel
theorem w_running : about1.status = .running := rfl
set_option maxRecDepth 65536 in
theorem w_room : about1.hasRoom e0.platform room_1 = true :=
  launch0.hasRoom_least _ room_1 (by decide +kernel) (by decide +kernel) (by decide +kernel) (by decide +kernel) (by decide +kernel) (by decide +kernel)
theorem allAtoms_all (ts : List Jvm.Cond) (a : Array Jvm.Value) (st : Jvm.State) : (allAtoms ts).before a st = ts.all (fun c => c.before a st) := by
  induction ts with
  | nil => rfl
  | cons c t ih =>
    show (Jvm.Cond.and c (allAtoms t)).before a st = _
    rw [Jvm.Cond.before_and, ih, List.all_cons]
def words1 : List Jvm.Cond := Jvm.Cond.code x code maxLocals ret :: tables_1
/-- a 'code' word, met by the world's own term for the bytes: nothing is compared byte by byte -/
theorem code_word {y : MethodName} {bytes : ByteArray} {mx : Nat} {rt : Option FieldType} {a : Array Value} {s : State} {m : MethodId} {meth : Method} {c : Code} (h1 : s.methodNamed? y = some m) (h2 : s.vm.method? m = some meth) (h3 : meth.code = some c) (h4 : c.code = bytes)
    (h5 : (c.maxLocals == mx && c.exceptionTable.isEmpty && decide (c.maxStack ≤ mostOperands) && decide (meth.sig.returnType = rt) && !meth.locks && decide (parseMethodDescriptor y.desc = some meth.sig)) = true) : (Jvm.Cond.code y bytes mx rt).before a s = true := by
  simp only [Bool.and_eq_true, beq_iff_eq, Bool.not_eq_true', decide_eq_true_eq] at h5
  obtain ⟨⟨⟨⟨⟨g1, g2⟩, g3⟩, g4⟩, g5⟩, g6⟩ := h5
  simp [Cond.before, Cond.holds, Cond.value, h1, h2, h3, h4, g1, g2, g3, g4, g5, g6]
def isCode : Jvm.Cond → Bool
  | .code _ _ _ _ => true
  | _ => false
theorem all_split {L : List Jvm.Cond} {P : Jvm.Cond → Bool} (h1 : L.all (fun c => isCode c || P c) = true) (h2 : ∀ c ∈ L.filter isCode, P c = true) : L.all P = true := by
  refine List.all_eq_true.mpr fun c hc => ?_
  have h := List.all_eq_true.mp h1 c hc
  rcases Bool.eq_false_or_eq_true (isCode c) with hi | hi
  · exact h2 c (List.mem_filter.mpr ⟨hc, hi⟩)
  · simpa [hi] using h
set_option maxRecDepth 65536 in
theorem w_c0 : (Jvm.Cond.code x code maxLocals ret).before args0 about1 = true := code_word (m := ⟨1, 1⟩) (meth := k1m1) (c := k1c1) (by decide +kernel) rfl rfl rfl (by decide +kernel)
set_option maxRecDepth 65536 in
theorem w_c1 : (Jvm.Cond.code ({ cls := "org/eventropy/core/SmallProbabilities", name := "<init>", desc := "()V" } : Jvm.MethodName) prog_48_method_1_code (1 : Nat) (Option.none : Option Jvm.ClassFile.FieldType)).before args0 about1 = true := code_word (m := ⟨2, 0⟩) (meth := k2m0) (c := k2c0) (by decide +kernel) rfl rfl rfl (by decide +kernel)
set_option maxRecDepth 65536 in
theorem w_c2 : (Jvm.Cond.code ({ cls := "java/lang/Object", name := "<init>", desc := "()V" } : Jvm.MethodName) object_method_1_code (1 : Nat) (Option.none : Option Jvm.ClassFile.FieldType)).before args0 about1 = true := code_word (m := ⟨0, 0⟩) (meth := k0m0) (c := k0c0) (by decide +kernel) rfl rfl rfl (by decide +kernel)
set_option maxRecDepth 65536 in
theorem w_c3 : (Jvm.Cond.code ({ cls := "org/eventropy/core/SmallProbabilities$Keyed", name := "<init>", desc := "()V" } : Jvm.MethodName) prog_49_method_1_code (1 : Nat) (Option.none : Option Jvm.ClassFile.FieldType)).before args0 about1 = true := code_word (m := ⟨3, 0⟩) (meth := k3m0) (c := k3c0) (by decide +kernel) rfl rfl rfl (by decide +kernel)
set_option maxRecDepth 65536 in
theorem w_c4 : (Jvm.Cond.code ({ cls := "org/eventropy/core/SmallProbabilities", name := "isEmpty", desc := "()Z" } : Jvm.MethodName) prog_48_method_5_code (1 : Nat) (Option.some Jvm.ClassFile.FieldType.boolean)).before args0 about1 = true := code_word (m := ⟨2, 3⟩) (meth := k2m3) (c := k2c3) (by decide +kernel) rfl rfl rfl (by decide +kernel)
set_option maxRecDepth 65536 in
theorem w_c5 : (Jvm.Cond.code ({ cls := "java/lang/Math", name := "min", desc := "(II)I" } : Jvm.MethodName) jdk_29_method_69_code (2 : Nat) (Option.some Jvm.ClassFile.FieldType.int)).before args0 about1 = true := code_word (m := ⟨4, 3⟩) (meth := k4m3) (c := k4c3) (by decide +kernel) rfl rfl rfl (by decide +kernel)
set_option maxRecDepth 65536 in
theorem w_c6 : (Jvm.Cond.code ({ cls := "java/lang/Math", name := "max", desc := "(II)I" } : Jvm.MethodName) jdk_29_method_65_code (2 : Nat) (Option.some Jvm.ClassFile.FieldType.int)).before args0 about1 = true := code_word (m := ⟨4, 1⟩) (meth := k4m1) (c := k4c1) (by decide +kernel) rfl rfl rfl (by decide +kernel)
set_option maxRecDepth 65536 in
theorem w_c7 : (Jvm.Cond.code ({ cls := "org/eventropy/core/SmallProbabilities", name := "addTransition", desc := "(ID)V" } : Jvm.MethodName) prog_48_method_3_code (4 : Nat) (Option.none : Option Jvm.ClassFile.FieldType)).before args0 about1 = true := code_word (m := ⟨2, 1⟩) (meth := k2m1) (c := k2c1) (by decide +kernel) rfl rfl rfl (by decide +kernel)
set_option maxRecDepth 65536 in
theorem w_c8 : (Jvm.Cond.code ({ cls := "org/eventropy/core/SmallProbabilities$Keyed", name := "add", desc := "(ID)V" } : Jvm.MethodName) prog_49_method_2_code (5 : Nat) (Option.none : Option Jvm.ClassFile.FieldType)).before args0 about1 = true := code_word (m := ⟨3, 1⟩) (meth := k3m1) (c := k3c1) (by decide +kernel) rfl rfl rfl (by decide +kernel)
set_option maxRecDepth 65536 in
theorem w_c9 : (Jvm.Cond.code ({ cls := "org/eventropy/core/AutomatonLayout", name := "grown", desc := "(I)I" } : Jvm.MethodName) prog_19_method_11_code (1 : Nat) (Option.some Jvm.ClassFile.FieldType.int)).before args0 about1 = true := code_word (m := ⟨5, 0⟩) (meth := k5m0) (c := k5c0) (by decide +kernel) rfl rfl rfl (by decide +kernel)
set_option maxRecDepth 65536 in
theorem w_c10 : (Jvm.Cond.code ({ cls := "java/lang/Math", name := "max", desc := "(JJ)J" } : Jvm.MethodName) jdk_29_method_66_code (4 : Nat) (Option.some Jvm.ClassFile.FieldType.long)).before args0 about1 = true := code_word (m := ⟨4, 2⟩) (meth := k4m2) (c := k4c2) (by decide +kernel) rfl rfl rfl (by decide +kernel)
set_option maxRecDepth 65536 in
theorem w_c11 : (Jvm.Cond.code ({ cls := "java/lang/Math", name := "min", desc := "(JJ)J" } : Jvm.MethodName) jdk_29_method_70_code (4 : Nat) (Option.some Jvm.ClassFile.FieldType.long)).before args0 about1 = true := code_word (m := ⟨4, 4⟩) (meth := k4m4) (c := k4c4) (by decide +kernel) rfl rfl rfl (by decide +kernel)
set_option maxRecDepth 65536 in
theorem w_c12 : (Jvm.Cond.code ({ cls := "java/util/Arrays", name := "copyOf", desc := "([II)[I" } : Jvm.MethodName) jdk_65_method_123_code (3 : Nat) (Option.some (Jvm.ClassFile.FieldType.array Jvm.ClassFile.FieldType.int))).before args0 about1 = true := code_word (m := ⟨6, 1⟩) (meth := k6m1) (c := k6c1) (by decide +kernel) rfl rfl rfl (by decide +kernel)
set_option maxRecDepth 65536 in
theorem w_c13 : (Jvm.Cond.code ({ cls := "java/util/Arrays", name := "copyOf", desc := "([DI)[D" } : Jvm.MethodName) jdk_65_method_127_code (3 : Nat) (Option.some (Jvm.ClassFile.FieldType.array Jvm.ClassFile.FieldType.double))).before args0 about1 = true := code_word (m := ⟨6, 2⟩) (meth := k6m2) (c := k6c2) (by decide +kernel) rfl rfl rfl (by decide +kernel)
set_option maxRecDepth 65536 in
theorem w_c14 : (Jvm.Cond.code ({ cls := "org/eventropy/core/SmallProbabilities", name := "addEnding", desc := "(ID)V" } : Jvm.MethodName) prog_48_method_4_code (4 : Nat) (Option.none : Option Jvm.ClassFile.FieldType)).before args0 about1 = true := code_word (m := ⟨2, 2⟩) (meth := k2m2) (c := k2c2) (by decide +kernel) rfl rfl rfl (by decide +kernel)
def codes1 : List Jvm.Cond := [Jvm.Cond.code x code maxLocals ret, Jvm.Cond.code ({ cls := "org/eventropy/core/SmallProbabilities", name := "<init>", desc := "()V" } : Jvm.MethodName) prog_48_method_1_code (1 : Nat) (Option.none : Option Jvm.ClassFile.FieldType), Jvm.Cond.code ({ cls := "java/lang/Object", name := "<init>", desc := "()V" } : Jvm.MethodName) object_method_1_code (1 : Nat) (Option.none : Option Jvm.ClassFile.FieldType), Jvm.Cond.code ({ cls := "org/eventropy/core/SmallProbabilities$Keyed", name := "<init>", desc := "()V" } : Jvm.MethodName) prog_49_method_1_code (1 : Nat) (Option.none : Option Jvm.ClassFile.FieldType), Jvm.Cond.code ({ cls := "org/eventropy/core/SmallProbabilities", name := "isEmpty", desc := "()Z" } : Jvm.MethodName) prog_48_method_5_code (1 : Nat) (Option.some Jvm.ClassFile.FieldType.boolean), Jvm.Cond.code ({ cls := "java/lang/Math", name := "min", desc := "(II)I" } : Jvm.MethodName) jdk_29_method_69_code (2 : Nat) (Option.some Jvm.ClassFile.FieldType.int), Jvm.Cond.code ({ cls := "java/lang/Math", name := "max", desc := "(II)I" } : Jvm.MethodName) jdk_29_method_65_code (2 : Nat) (Option.some Jvm.ClassFile.FieldType.int), Jvm.Cond.code ({ cls := "org/eventropy/core/SmallProbabilities", name := "addTransition", desc := "(ID)V" } : Jvm.MethodName) prog_48_method_3_code (4 : Nat) (Option.none : Option Jvm.ClassFile.FieldType), Jvm.Cond.code ({ cls := "org/eventropy/core/SmallProbabilities$Keyed", name := "add", desc := "(ID)V" } : Jvm.MethodName) prog_49_method_2_code (5 : Nat) (Option.none : Option Jvm.ClassFile.FieldType), Jvm.Cond.code ({ cls := "org/eventropy/core/AutomatonLayout", name := "grown", desc := "(I)I" } : Jvm.MethodName) prog_19_method_11_code (1 : Nat) (Option.some Jvm.ClassFile.FieldType.int), Jvm.Cond.code ({ cls := "java/lang/Math", name := "max", desc := "(JJ)J" } : Jvm.MethodName) jdk_29_method_66_code (4 : Nat) (Option.some Jvm.ClassFile.FieldType.long), Jvm.Cond.code ({ cls := "java/lang/Math", name := "min", desc := "(JJ)J" } : Jvm.MethodName) jdk_29_method_70_code (4 : Nat) (Option.some Jvm.ClassFile.FieldType.long), Jvm.Cond.code ({ cls := "java/util/Arrays", name := "copyOf", desc := "([II)[I" } : Jvm.MethodName) jdk_65_method_123_code (3 : Nat) (Option.some (Jvm.ClassFile.FieldType.array Jvm.ClassFile.FieldType.int)), Jvm.Cond.code ({ cls := "java/util/Arrays", name := "copyOf", desc := "([DI)[D" } : Jvm.MethodName) jdk_65_method_127_code (3 : Nat) (Option.some (Jvm.ClassFile.FieldType.array Jvm.ClassFile.FieldType.double)), Jvm.Cond.code ({ cls := "org/eventropy/core/SmallProbabilities", name := "addEnding", desc := "(ID)V" } : Jvm.MethodName) prog_48_method_4_code (4 : Nat) (Option.none : Option Jvm.ClassFile.FieldType)]
set_option maxRecDepth 65536 in
theorem codes_eq : words1.filter isCode = codes1 := rfl
theorem w_codes : ∀ c ∈ words1.filter isCode, c.before args0 about1 = true := by
  rw [codes_eq]
  intro c hc
  simp only [codes1, List.mem_cons, List.not_mem_nil, or_false] at hc
  rcases hc with rfl | rfl | rfl | rfl | rfl | rfl | rfl | rfl | rfl | rfl | rfl | rfl | rfl | rfl | rfl
  · exact w_c0
  · exact w_c1
  · exact w_c2
  · exact w_c3
  · exact w_c4
  · exact w_c5
  · exact w_c6
  · exact w_c7
  · exact w_c8
  · exact w_c9
  · exact w_c10
  · exact w_c11
  · exact w_c12
  · exact w_c13
  · exact w_c14
set_option maxRecDepth 65536 in
theorem w_t1 : (words1.take 24).all (fun c => isCode c || c.before args0 about1) = true := by decide +kernel
set_option maxRecDepth 65536 in
theorem w_t2 : ((words1.drop 24).take 24).all (fun c => isCode c || c.before args0 about1) = true := by decide +kernel
set_option maxRecDepth 65536 in
theorem w_t3 : (((words1.drop 24).drop 24).take 24).all (fun c => isCode c || c.before args0 about1) = true := by decide +kernel
set_option maxRecDepth 65536 in
theorem w_t4 : (((words1.drop 24).drop 24).drop 24).all (fun c => isCode c || c.before args0 about1) = true := by decide +kernel
theorem w_tables : (allAtoms (Jvm.Cond.code x code maxLocals ret :: tables_1)).before args0 about1 = true := by
  rw [allAtoms_all]
  show words1.all (fun c => c.before args0 about1) = true
  refine all_split ?_ w_codes
  rw [← List.take_append_drop 24 words1, List.all_append, w_t1, ← List.take_append_drop 24 (words1.drop 24), List.all_append, w_t2, ← List.take_append_drop 24 ((words1.drop 24).drop 24), List.all_append, w_t3, w_t4]
  rfl
set_option maxRecDepth 65536 in
theorem w_case : (Jvm.Cond.and given_1 narrow_1).before args0 about1 = true := by decide +kernel
theorem w_applies : (headSpec (Jvm.Cond.code x code maxLocals ret :: tables_1) room_1).applies x e0.platform about1 = true :=
  (Spec.applies_iff w_frames).mpr ⟨w_running, w_runnable, w_alone, w_named, w_hears, w_ripe, w_room, w_tables⟩
theorem atStart : AtStart classFile x code maxLocals ret World_1 tables_1 room_1 Calls_1 rest_1 Pre_1 launch0 p0 e0 about1 theMethod args0 below0 :=
  ⟨lists_1, trivial, launch0.admits_env _ _ _, launch0.least_env, fairChoices_fair.cas, fairChoices_fair.clock, w_frames, w_args, w_heap, w_applies, trivial, trivial, w_case⟩
end start1
theorem witness_1 : WitnessClaimed_1 := ⟨start1.p0, start1.e0, start1.about1, start1.theMethod, start1.args0, start1.below0, start1.atStart⟩
end Jvm.Pilot.@@N@@
