import JvmDerived
import JvmDerived.Pilot.@@N@@Statement
import JvmDerived.Pilot.@@N@@Code
set_option linter.unusedVariables false
set_option linter.unusedSimpArgs false
namespace Jvm.Pilot.@@N@@
open Jvm Jvm.ClassFile Sem Op Lib Jvm.Free Jvm.Stand Jvm.LawKit Jvm.RoadKit Bundle Jvm.Pilot.@@N@@.Jvm.D
section OwnKit
variable {p : Program} {l : Launch} {e : Env} {R : Room} {s : State} {m : MethodId} {args : Array Value} {below : List Frame} {meth : Method} {c : Code} {T : State} {locs : List Loc} {cells slots : Nat} {Z : State} {a0 : Array Value} {h : Heap}
/-- from S the body comes to its end, and P holds of it -/
def Gd (tb : Tables) (e : Env) (below : List Frame) (P : Outcome → State → Prop) (S : State) : Prop := ∃ s₂ o, Steps tb e below S s₂ ∧ s₂.status = .running ∧ Ended s₂ below o ∧ P o s₂
theorem Gd.go {tb : Tables} {e : Env} {below : List Frame} {P : Outcome → State → Prop} {S S' : State} (h : ∀ t, Steps tb e below S' t → Steps tb e below S t) (k : Gd tb e below P S') : Gd tb e below P S := by
  obtain ⟨s₂, o, h1, h2⟩ := k
  exact ⟨s₂, o, h _ h1, h2⟩
theorem Gd.via {tb : Tables} {e : Env} {below : List Frame} {P : Outcome → State → Prop} {S S' : State} (h : Gd tb e below P S' → Gd tb e below P S) (k : Gd tb e below P S') : Gd tb e below P S := h k
theorem Gd.viaA {α : Type} {A : α → Prop} {tb : Tables} {e : Env} {below : List Frame} {P : Outcome → State → Prop} {S : State} {S' : α → State} (h : (∀ z, A z → Gd tb e below P (S' z)) → Gd tb e below P S) (k : ∀ z, A z → Gd tb e below P (S' z)) : Gd tb e below P S := h k
/-- a body's contract: called with these arguments over this heap it returns, Q holds, and so many cells and slots at most are new -/
def Con (l : Launch) (Z : State) (y : MethodName) (bytes : ByteArray) (maxL : Nat) (ret : Option FieldType) (ws : List Jvm.Cond) (rm : Room) (kc ks : Nat) (as' : Array Value) (h : Heap) (Q : Option Value → Heap → List Loc → Prop) : Prop :=
  MetFree l y (head1 (Jvm.Cond.code y bytes maxL ret :: ws) rm) (fun a U => a = as' ∧ Z.Warmed39 U.vm ∧ U.heap = h) (fun _ _ _ _ _ => True) (fun _ U o U' => ∃ v L, o = .returned v ∧ Q v U'.heap L ∧ FrameEnd U o U' L kc ks)
/-- what a body's walk owes -/
abbrev Owes (s : State) (kc ks : Nat) (Q : Option Value → Heap → List Loc → Prop) : Outcome → State → Prop := fun o U' => ∃ v L, o = .returned v ∧ Q v U'.heap L ∧ FrameEnd s o U' L kc ks
theorem Con.of {y : MethodName} {bytes : ByteArray} {maxL : Nat} {ret : Option FieldType} {ws : List Jvm.Cond} {rm : Room} {kc ks : Nat} {as' : Array Value} {Q : Option Value → Heap → List Loc → Prop} (hpn : plainFor y = true)
    (body : ∀ (p : Program) (e : Env) (s : State) (m : MethodId) (below : List Frame) (meth : Method) (c : Code) (s₁ : State), p.tables.exec = Jvm.exec → c.code = bytes → c.maxLocals = maxL → s.vm.findClass y.cls = some m.cls → meth.name = y.name → meth.sig.returnType = ret → meth.locks = false → Z.Warmed39 s.vm →
      Stand p l e rm s m as' below meth c s₁ [] 0 0 → s₁.heap = h → Gd p.tables e below (Owes s kc ks Q) (s₁.setTop (entryFrame m as' maxL))) : Con l Z y bytes maxL ret ws rm kc ks as' h Q := by
  refine MetFree.of_bodySF hpn hisR ?_
  intro p e s m args below meth c s₁ Bd hml0 hP hK
  obtain ⟨rfl, hZ, hh⟩ := hP
  exact body p e s m below meth c s₁ Bd.exec Bd.bytes hml0 (findClass_of_methodNamed Bd.named) (name_of_methodNamed Bd.named Bd.method).1 Bd.returns Bd.notSynchronized hZ (Stand.of_body Bd) (by rw [← hh, Bd.state]; rfl)
theorem Con.weak {y : MethodName} {bytes : ByteArray} {maxL : Nat} {ret : Option FieldType} {ws : List Jvm.Cond} {rm : Room} {kc ks : Nat} {as' : Array Value} {Q Q' : Option Value → Heap → List Loc → Prop} (H : Con l Z y bytes maxL ret ws rm kc ks as' h Q) (q : ∀ v h L, Q v h L → Q' v h L) : Con l Z y bytes maxL ret ws rm kc ks as' h Q' := by
  intro p e ha hc hk s m args below hf happ hP hK
  obtain ⟨n, o, h1, h2, h3, v, L, e1, e2, e3⟩ := H p e ha hc hk s m args below hf happ hP hK
  exact ⟨n, o, h1, h2, h3, v, L, e1, q _ _ _ e2, e3⟩
theorem own_retI (X : Stand p l e R s m args below meth c T locs cells slots) (hx : p.tables.exec = Jvm.exec) {pc : Nat} {Ls : Array Slot} {z : Int32} {rest : List Value} (hret : meth.sig.returnType = some .int) (hlk : meth.locks = false) (hd : decode c.code pc = .ok (.ireturn, 1)) {Q : Option Value → Heap → List Loc → Prop} {kc ks : Nat} (hq : Q (some (.int z)) T.heap locs) (hc : cells ≤ kc) (hs : slots ≤ ks) :
    Gd p.tables e below (Owes s kc ks Q) (T.setTop (mkF m pc Ls (.int z :: rest))) := by
  obtain ⟨fs, hr, hrun, hended, hW, hsame⟩ := X.leave (v := some (.int z)) (fun h => by rw [hret] at h; cases h) hlk
  have hm' : T.vm.method? m = some meth := X.method'
  have hn : narrow .int (.int z) = .int z := rfl
  refine ⟨_, _, ?_, hrun, hended, _, _, rfl, hq, ⟨_, rfl⟩, hW, hsame.mono hc hs⟩
  show Steps p.tables e below (T.setTop { method := m, pc := pc, locals := Ls, stack := _ :: rest, locked := none }) _
  jvm_step X.here [X.here.top, hx, hd, hm', hret, hn]
  first | (intro acts; rw [hr _ acts rfl rfl rfl]) | rw [hr _ _ rfl rfl rfl]
  exact Steps.refl _
theorem own_retN (X : Stand p l e R s m args below meth c T locs cells slots) (hx : p.tables.exec = Jvm.exec) {pc : Nat} {Ls : Array Slot} {z : Int32} {rest : List Value} {t : FieldType} (hret : meth.sig.returnType = some t) (hlk : meth.locks = false) (ht : t = .boolean ∨ t = .byte ∨ t = .char ∨ t = .short) (hd : decode c.code pc = .ok (.ireturn, 1)) {Q : Option Value → Heap → List Loc → Prop} {kc ks : Nat} (hq : Q (some (.int (nar t z))) T.heap locs) (hc : cells ≤ kc) (hs : slots ≤ ks) :
    Gd p.tables e below (Owes s kc ks Q) (T.setTop (mkF m pc Ls (.int z :: rest))) := by
  obtain ⟨fs, hr, hrun, hended, hW, hsame⟩ := X.leave (v := some (.int (nar t z))) (fun h => by rw [hret] at h; cases h) hlk
  exact ⟨_, _, retN X hx hret ht hd hr, hrun, hended, _, _, rfl, hq, ⟨_, rfl⟩, hW, hsame.mono hc hs⟩
theorem own_retV (X : Stand p l e R s m args below meth c T locs cells slots) (hx : p.tables.exec = Jvm.exec) {pc : Nat} {Ls : Array Slot} (hret : meth.sig.returnType = none) (hlk : meth.locks = false) (hd : decode c.code pc = .ok (.return_, 1)) {Q : Option Value → Heap → List Loc → Prop} {kc ks : Nat} (hq : Q none T.heap locs) (hc : cells ≤ kc) (hs : slots ≤ ks) :
    Gd p.tables e below (Owes s kc ks Q) (T.setTop (mkF m pc Ls [])) := by
  obtain ⟨fs, hr, hrun, hended, hW, hsame⟩ := X.leave (v := none) (fun _ => rfl) hlk
  exact ⟨_, _, X.returnOut hx hret hd hr, hrun, hended, _, _, rfl, hq, ⟨_, rfl⟩, hW, hsame.mono hc hs⟩
theorem own_retL (X : Stand p l e R s m args below meth c T locs cells slots) (hx : p.tables.exec = Jvm.exec) {pc : Nat} {Ls : Array Slot} {z : Int64} {rest : List Value} (hret : meth.sig.returnType = some .long) (hlk : meth.locks = false) (hd : decode c.code pc = .ok (.lreturn, 1)) {Q : Option Value → Heap → List Loc → Prop} {kc ks : Nat} (hq : Q (some (.long z)) T.heap locs) (hc : cells ≤ kc) (hs : slots ≤ ks) :
    Gd p.tables e below (Owes s kc ks Q) (T.setTop (mkF m pc Ls (.long z :: rest))) := by
  obtain ⟨fs, hr, hrun, hended, hW, hsame⟩ := X.leave (v := some (.long z)) (fun h => by rw [hret] at h; cases h) hlk
  have hm' : T.vm.method? m = some meth := X.method'
  refine ⟨_, _, ?_, hrun, hended, _, _, rfl, hq, ⟨_, rfl⟩, hW, hsame.mono hc hs⟩
  show Steps p.tables e below (T.setTop { method := m, pc := pc, locals := Ls, stack := _ :: rest, locked := none }) _
  jvm_step X.here [X.here.top, hx, hd, hm', hret, narrow]
  first | (intro acts; rw [hr _ acts rfl rfl rfl]) | rw [hr _ _ rfl rfl rfl]
  exact Steps.refl _
theorem own_retA (X : Stand p l e R s m args below meth c T locs cells slots) (hx : p.tables.exec = Jvm.exec) {pc : Nat} {Ls : Array Slot} {a : Addr} {rest : List Value} {t : FieldType} (hret : meth.sig.returnType = some t) (hlk : meth.locks = false) (ht : t.isReference = true) (hd : decode c.code pc = .ok (.areturn, 1)) {Q : Option Value → Heap → List Loc → Prop} {kc ks : Nat} (hq : Q (some (.ref a)) T.heap locs) (hc : cells ≤ kc) (hs : slots ≤ ks) :
    Gd p.tables e below (Owes s kc ks Q) (T.setTop (mkF m pc Ls (.ref a :: rest))) := by
  obtain ⟨fs, hr, hrun, hended, hW, hsame⟩ := X.leave (v := some (.ref a)) (fun h => by rw [hret] at h; cases h) hlk
  have hm' : T.vm.method? m = some meth := X.method'
  refine ⟨_, _, ?_, hrun, hended, _, _, rfl, hq, ⟨_, rfl⟩, hW, hsame.mono hc hs⟩
  show Steps p.tables e below (T.setTop { method := m, pc := pc, locals := Ls, stack := _ :: rest, locked := none }) _
  jvm_step X.here [X.here.top, hx, hd, hm', hret, ht, Value.isRef]
  first | (intro acts; rw [hr _ acts rfl rfl rfl]) | rw [hr _ _ rfl rfl rfl]
  exact Steps.refl _
/-- a static call by its contract -/
theorem own_callS (X : Stand p l e R s m args below meth c T locs cells slots) (hx : p.tables.exec = Jvm.exec) (hZ : Z.Warmed39 s.vm) {own : String} {index : Nat} {y : MethodName} {bytes : ByteArray} {maxL : Nat} {ret : Option FieldType} (hown : s.vm.findClass own = some m.cls)
    (w1 : (Jvm.Cond.methodLink own index y).before a0 Z = true) (w2 : (Jvm.Cond.static y).before a0 Z = true) (w3 : (Jvm.Cond.initialized y.cls).before a0 Z = true) (w4 : (Jvm.Cond.code y bytes maxL ret).before a0 Z = true) (hy : y.cls ≠ "java/lang/invoke/MethodHandle" ∧ y.cls ≠ "java/lang/invoke/VarHandle")
    {rm : Room} {as' : Array Value} {Q : Option Value → Heap → List Loc → Prop} {W kc ks : Nat} (hM : Con l Z y bytes maxL ret [] rm kc ks as' h Q) (hkc : rm.cells = kc) (hks : rm.slots = ks) (eT : T.heap = h) (hf : rm.frames + 1 ≤ R.frames) (hl : W + (maxL + 11) + rm.locals ≤ R.locals)
    {g : JFrame} (hg : g.method = m) (hsize : g.locals.size = c.maxLocals) {argsL rest : List Value} (hlen : ∀ sig, parseMethodDescriptor y.desc = some sig → argsL.length = sig.parameters.length) (hstack : g.stack = argsL.reverse ++ rest) (hW : 2 * g.monitorRoom + (rest.map fun v => v.category).sum ≤ W)
    (hdg : decode c.code g.pc = .ok (.invokestatic index, 3)) (has : argsL.toArray = as') (hc : cells + kc ≤ R.cells) (hs : slots + ks ≤ R.slots) :
    ∃ v T' L, Stand p l e R s m args below meth c T' (locs ++ L) (cells + kc) (slots + ks) ∧ Q v T'.heap L ∧ ∀ target, Steps p.tables e below (T'.setTop { g with pc := g.pc + 3, stack := v.toList ++ rest }) target → Steps p.tables e below (T.setTop g) target := by
  subst hkc hks
  obtain ⟨v, vm₁, ⟨T', L', c', s'⟩, -, X', ⟨L, hq, l1, l2, l3⟩, st⟩ := Jvm.LawKit.callS X hx (y := y) hown (mvT hZ w1) (mvT hZ w2) (mvT hZ w3) (mvT hZ w4) hy (backOf (W := W) hM hZ w4 w3 hf hl) hg hsize (argsL := argsL) (rest := rest) hlen hstack hW hdg (fun _ _ => ⟨has, eT, hc, hs⟩)
  dsimp only [Pt.U, Pt.locs, Pt.cells, Pt.slots] at X' l1 l2 l3 st hq
  subst l1 l2 l3
  exact ⟨v, T', L, X', hq, st⟩
/-- a static call that writes and makes nothing -/
theorem own_callSP (X : Stand p l e R s m args below meth c T locs cells slots) (hx : p.tables.exec = Jvm.exec) (hZ : Z.Warmed39 s.vm) {own : String} {index : Nat} {y : MethodName} {bytes : ByteArray} {maxL : Nat} {ret : Option FieldType} (hown : s.vm.findClass own = some m.cls)
    (w1 : (Jvm.Cond.methodLink own index y).before a0 Z = true) (w2 : (Jvm.Cond.static y).before a0 Z = true) (w3 : (Jvm.Cond.initialized y.cls).before a0 Z = true) (w4 : (Jvm.Cond.code y bytes maxL ret).before a0 Z = true) (hy : y.cls ≠ "java/lang/invoke/MethodHandle" ∧ y.cls ≠ "java/lang/invoke/VarHandle")
    {rm : Room} {as' : Array Value} {v : Option Value} {W : Nat} (hM : Con l Z y bytes maxL ret [] rm 0 0 as' h (fun v' h' L => v' = v ∧ h' = h ∧ L = [])) (hkc : rm.cells = 0) (hks : rm.slots = 0) (eT : T.heap = h) (hf : rm.frames + 1 ≤ R.frames) (hl : W + (maxL + 11) + rm.locals ≤ R.locals)
    {g : JFrame} (hg : g.method = m) (hsize : g.locals.size = c.maxLocals) {argsL rest : List Value} (hlen : ∀ sig, parseMethodDescriptor y.desc = some sig → argsL.length = sig.parameters.length) (hstack : g.stack = argsL.reverse ++ rest) (hW : 2 * g.monitorRoom + (rest.map fun v => v.category).sum ≤ W)
    (hdg : decode c.code g.pc = .ok (.invokestatic index, 3)) (has : argsL.toArray = as') (hc : cells ≤ R.cells := by decide) (hs : slots ≤ R.slots := by decide) :
    ∃ T', Stand p l e R s m args below meth c T' locs cells slots ∧ T'.heap = h ∧ ∀ target, Steps p.tables e below (T'.setTop { g with pc := g.pc + 3, stack := v.toList ++ rest }) target → Steps p.tables e below (T.setTop g) target := by
  obtain ⟨v', T', L, X', ⟨e1, e2, e3⟩, st⟩ := own_callS X hx hZ hown w1 w2 w3 w4 hy hM hkc hks eT hf hl hg hsize hlen hstack hW hdg has hc hs
  subst e1 e3
  rw [List.append_nil] at X'
  exact ⟨T', X', e2, st⟩
/-- an instance method by its contract, chosen by the receiver's class -/
theorem own_callV (X : Stand p l e R s m args below meth c T locs cells slots) (hx : p.tables.exec = Jvm.exec) (hZ : Z.Warmed39 s.vm) {own C : String} {index : Nat} {y : MethodName} {bytes : ByteArray} {maxL : Nat} {ret : Option FieldType} (hown : s.vm.findClass own = some m.cls)
    (w1 : (Jvm.Cond.methodLink own index y).before a0 Z = true) (w2 : (Jvm.Cond.declares y).before a0 Z = true) (w3 : (Jvm.Cond.selects C y y).before a0 Z = true) (w4 : (Jvm.Cond.instanceMethod y).before a0 Z = true) (w5 : (Jvm.Cond.initialized y.cls).before a0 Z = true) (w6 : (Jvm.Cond.code y bytes maxL ret).before a0 Z = true) (hy : y.cls ≠ "java/lang/invoke/MethodHandle" ∧ y.cls ≠ "java/lang/invoke/VarHandle")
    {b : Addr} (E : Exa Z h b C) {rm : Room} {as' : Array Value} {Q : Option Value → Heap → List Loc → Prop} {W kc ks : Nat} (hM : Con l Z y bytes maxL ret [] rm kc ks as' h Q) (hkc : rm.cells = kc) (hks : rm.slots = ks) (eT : T.heap = h) (hf : rm.frames + 1 ≤ R.frames) (hl : W + (maxL + 11) + rm.locals ≤ R.locals)
    {g : JFrame} (hg : g.method = m) (hsize : g.locals.size = c.maxLocals) {argsL rest : List Value} (hlen : ∀ sig, parseMethodDescriptor y.desc = some sig → argsL.length = sig.parameters.length) (hstack : g.stack = argsL.reverse ++ .ref b :: rest) (hW : 2 * g.monitorRoom + (rest.map fun v => v.category).sum ≤ W)
    (hdg : decode c.code g.pc = .ok (.invokevirtual index, 3)) (has : (.ref b :: argsL).toArray = as') (hc : cells + kc ≤ R.cells) (hs : slots + ks ≤ R.slots) :
    ∃ v T' L, Stand p l e R s m args below meth c T' (locs ++ L) (cells + kc) (slots + ks) ∧ Q v T'.heap L ∧ ∀ target, Steps p.tables e below (T'.setTop { g with pc := g.pc + 3, stack := v.toList ++ rest }) target → Steps p.tables e below (T.setTop g) target := by
  subst hkc hks
  obtain ⟨cq, kq, qa, qb, qc⟩ := isOf hZ eT E
  obtain ⟨v, vm₁, ⟨T', L', c', s'⟩, -, X', ⟨L, hq, l1, l2, l3⟩, st⟩ := X.virtualBack hx (y := y) (z := y) hown (mvT hZ w1) (mvT hZ w2) (notFace_of_selects (args := #[]) (mvT hZ w3)) (mvT hZ w3) (mvT hZ w4) hy (backOf (W := W) hM hZ w6 w5 hf hl) qa qc hg hsize (Steps.refl _) (argsL := argsL) (rest := rest) hlen hstack hW hdg (fun _ _ => ⟨has, eT, hc, hs⟩)
  dsimp only [Pt.U, Pt.locs, Pt.cells, Pt.slots] at X' l1 l2 l3 st hq
  subst l1 l2 l3
  exact ⟨v, T', L, X', hq, fun _ k => st.trans k⟩
/-- an instance method that writes and makes nothing -/
theorem own_callVP (X : Stand p l e R s m args below meth c T locs cells slots) (hx : p.tables.exec = Jvm.exec) (hZ : Z.Warmed39 s.vm) {own C : String} {index : Nat} {y : MethodName} {bytes : ByteArray} {maxL : Nat} {ret : Option FieldType} (hown : s.vm.findClass own = some m.cls)
    (w1 : (Jvm.Cond.methodLink own index y).before a0 Z = true) (w2 : (Jvm.Cond.declares y).before a0 Z = true) (w3 : (Jvm.Cond.selects C y y).before a0 Z = true) (w4 : (Jvm.Cond.instanceMethod y).before a0 Z = true) (w5 : (Jvm.Cond.initialized y.cls).before a0 Z = true) (w6 : (Jvm.Cond.code y bytes maxL ret).before a0 Z = true) (hy : y.cls ≠ "java/lang/invoke/MethodHandle" ∧ y.cls ≠ "java/lang/invoke/VarHandle")
    {b : Addr} (E : Exa Z h b C) {rm : Room} {as' : Array Value} {v : Option Value} {W : Nat} (hM : Con l Z y bytes maxL ret [] rm 0 0 as' h (fun v' h' L => v' = v ∧ h' = h ∧ L = [])) (hkc : rm.cells = 0) (hks : rm.slots = 0) (eT : T.heap = h) (hf : rm.frames + 1 ≤ R.frames) (hl : W + (maxL + 11) + rm.locals ≤ R.locals)
    {g : JFrame} (hg : g.method = m) (hsize : g.locals.size = c.maxLocals) {argsL rest : List Value} (hlen : ∀ sig, parseMethodDescriptor y.desc = some sig → argsL.length = sig.parameters.length) (hstack : g.stack = argsL.reverse ++ .ref b :: rest) (hW : 2 * g.monitorRoom + (rest.map fun v => v.category).sum ≤ W)
    (hdg : decode c.code g.pc = .ok (.invokevirtual index, 3)) (has : (.ref b :: argsL).toArray = as') (hc : cells ≤ R.cells := by decide) (hs : slots ≤ R.slots := by decide) :
    ∃ T', Stand p l e R s m args below meth c T' locs cells slots ∧ T'.heap = h ∧ ∀ target, Steps p.tables e below (T'.setTop { g with pc := g.pc + 3, stack := v.toList ++ rest }) target → Steps p.tables e below (T.setTop g) target := by
  obtain ⟨v', T', L, X', ⟨e1, e2, e3⟩, st⟩ := own_callV X hx hZ hown w1 w2 w3 w4 w5 w6 hy E hM hkc hks eT hf hl hg hsize hlen hstack hW hdg has hc hs
  subst e1 e3
  rw [List.append_nil] at X'
  exact ⟨T', X', e2, st⟩
/-- a constructor by its contract -/
theorem own_callI (X : Stand p l e R s m args below meth c T locs cells slots) (hx : p.tables.exec = Jvm.exec) (hZ : Z.Warmed39 s.vm) {own : String} {index : Nat} {y : MethodName} {bytes : ByteArray} {maxL : Nat} (hy1 : y.name = "<init>") (hown : s.vm.findClass own = some m.cls)
    (w1 : (Jvm.Cond.methodLink own index y).before a0 Z = true) (w4 : (Jvm.Cond.instanceMethod y).before a0 Z = true) (w5 : (Jvm.Cond.initialized y.cls).before a0 Z = true) (w6 : (Jvm.Cond.code y bytes maxL none).before a0 Z = true) (hy : y.cls ≠ "java/lang/invoke/MethodHandle" ∧ y.cls ≠ "java/lang/invoke/VarHandle")
    {b : Addr} {rm : Room} {as' : Array Value} {Q : Option Value → Heap → List Loc → Prop} {W kc ks : Nat} (hM : Con l Z y bytes maxL none [] rm kc ks as' h Q) (hkc : rm.cells = kc) (hks : rm.slots = ks) (eT : T.heap = h) (hf : rm.frames + 1 ≤ R.frames) (hl : W + (maxL + 11) + rm.locals ≤ R.locals)
    {g : JFrame} (hg : g.method = m) (hsize : g.locals.size = c.maxLocals) {argsL rest : List Value} (hlen : ∀ sig, parseMethodDescriptor y.desc = some sig → argsL.length = sig.parameters.length) (hstack : g.stack = argsL.reverse ++ .ref b :: rest) (hW : 2 * g.monitorRoom + (rest.map fun v => v.category).sum ≤ W)
    (hdg : decode c.code g.pc = .ok (.invokespecial index, 3)) (has : (.ref b :: argsL).toArray = as') (hc : cells + kc ≤ R.cells) (hs : slots + ks ≤ R.slots) :
    ∃ v T' L, Stand p l e R s m args below meth c T' (locs ++ L) (cells + kc) (slots + ks) ∧ Q v T'.heap L ∧ ∀ target, Steps p.tables e below (T'.setTop { g with pc := g.pc + 3, stack := v.toList ++ rest }) target → Steps p.tables e below (T.setTop g) target := by
  subst hkc hks
  obtain ⟨v, vm₁, ⟨T', L', c', s'⟩, -, X', ⟨L, hq, l1, l2, l3⟩, st⟩ := X.specialBack hx (y := y) hy1 hown (mvT hZ w1) (mvT hZ w4) (mvT hZ w6) hy (backOf (W := W) hM hZ w6 w5 hf hl) hg hsize (Steps.refl _) (a := b) (argsL := argsL) (rest := rest) hlen hstack hW hdg (fun _ _ => ⟨has, eT, hc, hs⟩)
  dsimp only [Pt.U, Pt.locs, Pt.cells, Pt.slots] at X' l1 l2 l3 st hq
  subst l1 l2 l3
  exact ⟨v, T', L, X', hq, fun _ k => st.trans k⟩
/-- an array as a function of its places -/
def ArF (Z : State) (h : Heap) (a : Addr) (ty : FieldType) (n : Nat) (f : Nat → Value) : Prop := ∃ c : Cell, Arr Z h a c ty ∧ c.slots.size = n ∧ n < 2 ^ 31 ∧ ∀ i, i < n → c.slots[i]? = some (f i)
def upd (f : Nat → Value) (j : Nat) (v : Value) : Nat → Value := fun i => if i = j then v else f i
theorem upd_at (f : Nat → Value) (j : Nat) (v : Value) : upd f j v j = v := if_pos rfl
theorem upd_ne (f : Nat → Value) {i j : Nat} (v : Value) (q : ¬ i = j) : upd f j v i = f i := if_neg q
theorem ArF.lt {h : Heap} {a : Addr} {ty : FieldType} {n : Nat} {f : Nat → Value} (F : ArF Z h a ty n f) : a < h.size := by obtain ⟨c, A, -⟩ := F; exact A.lt
theorem ArF.ext {h h' : Heap} {a : Addr} {ty : FieldType} {n : Nat} {f : Nat → Value} (F : ArF Z h a ty n f) (E : Ext h h') : ArF Z h' a ty n f := by obtain ⟨c, A, r⟩ := F; exact ⟨c, A.ext E, r⟩
theorem ArF.other {h h' : Heap} {a b : Addr} {ty : FieldType} {n : Nat} {f : Nat → Value} {sl : Nat} {v : Value} (F : ArF Z h b ty n f) (W : Wr h h' a sl v) (q : b ≠ a) : ArF Z h' b ty n f := by obtain ⟨c, A, r⟩ := F; exact ⟨c, A.other W q, r⟩
theorem ArF.keep {h h' : Heap} {a : Addr} {ty : FieldType} {n : Nat} {f : Nat → Value} {ws : List Addr} (F : ArF Z h a ty n f) (K : Keep h h' ws) (q : a ∉ ws) : ArF Z h' a ty n f := by obtain ⟨c, A, r⟩ := F; exact ⟨c, ⟨K.2.1 a c A.1 q, A.2⟩, r⟩
theorem ArF.set {h h' : Heap} {a : Addr} {ty : FieldType} {n : Nat} {f : Nat → Value} {j : Nat} {v : Value} (F : ArF Z h a ty n f) (W : Wr h h' a j v) : ArF Z h' a ty n (upd f j v) := by
  obtain ⟨c, A, r1, r2, r3⟩ := F
  refine ⟨_, A.same W, by rw [sz_set]; exact r1, r2, fun i hi => ?_⟩
  show (c.slots.setIfInBounds j v)[i]? = _
  rw [Array.getElem?_setIfInBounds]
  by_cases q : j = i
  · subst q; rw [if_pos rfl, if_pos (by omega), upd_at]
  · rw [if_neg q, upd_ne _ _ (fun w => q w.symm)]; exact r3 i hi
theorem ArF.congr {h : Heap} {a : Addr} {ty : FieldType} {n : Nat} {f g : Nat → Value} (F : ArF Z h a ty n f) (q : ∀ i, i < n → f i = g i) : ArF Z h a ty n g := by
  obtain ⟨c, A, r1, r2, r3⟩ := F
  exact ⟨c, A, r1, r2, fun i hi => by rw [← q i hi]; exact r3 i hi⟩
theorem ArF.n31 {h : Heap} {a : Addr} {ty : FieldType} {n : Nat} {f : Nat → Value} (F : ArF Z h a ty n f) : n < 2 ^ 31 := by obtain ⟨c, A, r1, r2, r3⟩ := F; exact r2
theorem own_ofN {n : Nat} (h : n < 2 ^ 31) : (Int32.ofNat n).toInt = n := Int32.toInt_ofNat_small h
theorem own_ofC {n : Nat} (h : n < 2 ^ 31) : (Int32.ofNat n).toNatClampNeg = n := by show (Int32.ofNat n).toInt.toNat = n; rw [own_ofN h]; rfl
theorem own_ltN {i n : Nat} (h : i < n) (hn : n < 2 ^ 31) : Int32.ofNat i < Int32.ofNat n := by rw [Int32.lt_iff_toInt_lt, own_ofN (by omega), own_ofN hn]; omega
theorem own_geN {i n : Nat} (h : ¬ i < n) (hn : i < 2 ^ 31) : ¬ Int32.ofNat i < Int32.ofNat n := by rw [Int32.lt_iff_toInt_lt, own_ofN hn, own_ofN (by omega)]; omega
theorem own_incN (i : Nat) : Int32.ofNat i + (1 : Int32) = Int32.ofNat (i + 1) := (Int32.ofNat_add i 1).symm
theorem own_nat {j : Int32} (h : 0 ≤ j.toInt) : (j.toNatClampNeg : Int) = j.toInt := Int.toNat_of_nonneg h
theorem own_natInj {i j : Int32} (hi : 0 ≤ i.toInt) (hj : 0 ≤ j.toInt) : i.toNatClampNeg = j.toNatClampNeg ↔ i = j := by
  constructor
  · intro q; have a := own_nat hi; have b := own_nat hj; exact Int32.toInt_inj.mp (by omega)
  · rintro rfl; rfl
theorem own_in {c : Cell} {n : Nat} {j : Int32} (S : c.slots.size = n) (h1 : 0 ≤ j.toInt) (h2 : j.toInt < n) : ¬ (j < 0 ∨ c.slots.size ≤ j.toNatClampNeg) := by
  have e : (j.toNatClampNeg : Int) = j.toInt := Int.toNat_of_nonneg h1
  rw [Int32.lt_iff_toInt_lt]
  have : (0 : Int32).toInt = 0 := rfl
  omega
theorem own_new {h h' : Heap} {k : ClassId} {ty : FieldType} {z : Int32} {a : Addr} (A : Arr Z h' a (newA k ty z) ty) (q : ¬ z < 0) : ArF Z h' a ty z.toNatClampNeg (fun _ => defaultValue ty) :=
  ⟨_, A, sz_new _ _ _, (back32 q).2, fun i hi => by simp [newA, hi]⟩
theorem own_ldI (X : Stand p l e R s m args below meth c T locs cells slots) (hx : p.tables.exec = Jvm.exec) (hZ : Z.Warmed39 s.vm) (eT : T.heap = h) {a : Addr} {n : Nat} {f : Nat → Value} (A : ArF Z h a .int n f) {j : Int32} (h1 : 0 ≤ j.toInt) (h2 : j.toInt < n) {v : Value} (hv : f j.toNatClampNeg = v)
    {g : JFrame} (hg : g.method = m) {rest : List Value} (hs : g.stack = .int j :: .ref a :: rest) (hd : decode c.code g.pc = .ok (.iaload, 1)) (target : State) (k : Steps p.tables e below (T.setTop { g with pc := g.pc + 1, stack := v :: rest }) target) : Steps p.tables e below (T.setTop g) target := by
  obtain ⟨cl, Ar, S, -, H⟩ := A
  exact X.iaload hx (j := j) (v := v) (by rw [eT]; exact Ar.1) (State.isArrayOf_alike hZ.alike Ar.2.1) Ar.2.2 (own_in S h1 h2) (by have e := Int.toNat_of_nonneg h1; rw [← hv]; exact H _ (by show j.toInt.toNat < n; omega)) hg hs hd _ k
theorem own_ldJ (X : Stand p l e R s m args below meth c T locs cells slots) (hx : p.tables.exec = Jvm.exec) (hZ : Z.Warmed39 s.vm) (eT : T.heap = h) {a : Addr} {n : Nat} {f : Nat → Value} (A : ArF Z h a .long n f) {j : Int32} (h1 : 0 ≤ j.toInt) (h2 : j.toInt < n) {v : Value} (hv : f j.toNatClampNeg = v)
    {g : JFrame} (hg : g.method = m) {rest : List Value} (hs : g.stack = .int j :: .ref a :: rest) (hd : decode c.code g.pc = .ok (.laload, 1)) (target : State) (k : Steps p.tables e below (T.setTop { g with pc := g.pc + 1, stack := v :: rest }) target) : Steps p.tables e below (T.setTop g) target := by
  obtain ⟨cl, Ar, S, -, H⟩ := A
  exact X.laload hx (j := j) (v := v) (by rw [eT]; exact Ar.1) (State.isArrayOf_alike hZ.alike Ar.2.1) Ar.2.2 (own_in S h1 h2) (by have e := Int.toNat_of_nonneg h1; rw [← hv]; exact H _ (by show j.toInt.toNat < n; omega)) hg hs hd _ k
theorem own_ldB (X : Stand p l e R s m args below meth c T locs cells slots) (hx : p.tables.exec = Jvm.exec) (hZ : Z.Warmed39 s.vm) (eT : T.heap = h) {a : Addr} {n : Nat} {f : Nat → Value} (A : ArF Z h a .byte n f) {j : Int32} (h1 : 0 ≤ j.toInt) (h2 : j.toInt < n) {v : Value} (hv : f j.toNatClampNeg = v)
    {g : JFrame} (hg : g.method = m) {rest : List Value} (hs : g.stack = .int j :: .ref a :: rest) (hd : decode c.code g.pc = .ok (.baload, 1)) (target : State) (k : Steps p.tables e below (T.setTop { g with pc := g.pc + 1, stack := v :: rest }) target) : Steps p.tables e below (T.setTop g) target := by
  obtain ⟨cl, Ar, S, -, H⟩ := A
  exact X.baloadBytes hx (j := j) (v := v) (by rw [eT]; exact Ar.1) (State.isArrayOf_alike hZ.alike Ar.2.1) Ar.2.2 (own_in S h1 h2) (by have e := Int.toNat_of_nonneg h1; rw [← hv]; exact H _ (by show j.toInt.toNat < n; omega)) hg hs hd _ k
theorem own_ldC (X : Stand p l e R s m args below meth c T locs cells slots) (hx : p.tables.exec = Jvm.exec) (hZ : Z.Warmed39 s.vm) (eT : T.heap = h) {a : Addr} {n : Nat} {f : Nat → Value} (A : ArF Z h a .char n f) {j : Int32} (h1 : 0 ≤ j.toInt) (h2 : j.toInt < n) {v : Value} (hv : f j.toNatClampNeg = v)
    {g : JFrame} (hg : g.method = m) {rest : List Value} (hs : g.stack = .int j :: .ref a :: rest) (hd : decode c.code g.pc = .ok (.caload, 1)) (target : State) (k : Steps p.tables e below (T.setTop { g with pc := g.pc + 1, stack := v :: rest }) target) : Steps p.tables e below (T.setTop g) target := by
  obtain ⟨cl, Ar, S, -, H⟩ := A
  exact X.caload hx (j := j) (v := v) (by rw [eT]; exact Ar.1) (State.isArrayOf_alike hZ.alike Ar.2.1) Ar.2.2 (own_in S h1 h2) (by have e := Int.toNat_of_nonneg h1; rw [← hv]; exact H _ (by show j.toInt.toNat < n; omega)) hg hs hd _ k
theorem own_len (X : Stand p l e R s m args below meth c T locs cells slots) (hx : p.tables.exec = Jvm.exec) (hZ : Z.Warmed39 s.vm) (eT : T.heap = h) {a : Addr} {ty : FieldType} {n : Nat} {f : Nat → Value} (A : ArF Z h a ty n f) {z : Int32} (hz : Int32.ofNat n = z)
    {g : JFrame} (hg : g.method = m) {rest : List Value} (hs : g.stack = .ref a :: rest) (hd : decode c.code g.pc = .ok (.arraylength, 1)) (target : State) (k : Steps p.tables e below (T.setTop { g with pc := g.pc + 1, stack := .int z :: rest }) target) : Steps p.tables e below (T.setTop g) target := by
  obtain ⟨cl, Ar, S, -, H⟩ := A
  refine X.arraylength hx (by rw [eT]; exact Ar.1) (State.isArrayOf_alike hZ.alike Ar.2.1) hg hs hd _ ?_
  rw [S]; rw [← hz] at k; exact k
theorem own_stI (X : Stand p l e R s m args below meth c T locs cells slots) (hx : p.tables.exec = Jvm.exec) (hZ : Z.Warmed39 s.vm) (eT : T.heap = h) {a : Addr} {n : Nat} {f : Nat → Value} (A : ArF Z h a .int n f) {j x : Int32} (h1 : 0 ≤ j.toInt) (h2 : j.toInt < n)
    {g : JFrame} (hg : g.method = m) {rest : List Value} (hs : g.stack = .int x :: .int j :: .ref a :: rest) (hd : decode c.code g.pc = .ok (.iastore, 1)) :
    ∃ T' h', Stand p l e R s m args below meth c T' (locs ++ [⟨a, j.toNatClampNeg⟩]) cells slots ∧ T'.heap = h' ∧ Wr h h' a j.toNatClampNeg (.int x) ∧ ∀ target, Steps p.tables e below (T'.setTop { g with pc := g.pc + 1, stack := rest }) target → Steps p.tables e below (T.setTop g) target := by
  obtain ⟨cl, Ar, S, -, H⟩ := A
  exact stI X hx hZ eT Ar (own_in S h1 h2) hg hs hd
theorem own_stJ (X : Stand p l e R s m args below meth c T locs cells slots) (hx : p.tables.exec = Jvm.exec) (hZ : Z.Warmed39 s.vm) (eT : T.heap = h) {a : Addr} {n : Nat} {f : Nat → Value} (A : ArF Z h a .long n f) {j : Int32} {x : Int64} (h1 : 0 ≤ j.toInt) (h2 : j.toInt < n)
    {g : JFrame} (hg : g.method = m) {rest : List Value} (hs : g.stack = .long x :: .int j :: .ref a :: rest) (hd : decode c.code g.pc = .ok (.lastore, 1)) :
    ∃ T' h', Stand p l e R s m args below meth c T' (locs ++ [⟨a, j.toNatClampNeg⟩]) cells slots ∧ T'.heap = h' ∧ Wr h h' a j.toNatClampNeg (.long x) ∧ ∀ target, Steps p.tables e below (T'.setTop { g with pc := g.pc + 1, stack := rest }) target → Steps p.tables e below (T.setTop g) target := by
  obtain ⟨cl, Ar, S, -, H⟩ := A
  exact stJ X hx hZ eT Ar (own_in S h1 h2) hg hs hd
/-- a boolean as an int -/
def bI (P : Prop) [Decidable P] : Int32 := if P then 1 else 0
theorem bI_z {P : Prop} [Decidable P] (h : ¬ P) : bI P = 0 := if_neg h
theorem bI_o {P : Prop} [Decidable P] (h : P) : bI P = 1 := if_pos h
theorem bI_ne {P : Prop} [Decidable P] (h : P) : ¬ bI P = 0 := by rw [bI_o h]; decide
theorem nar_b {P : Prop} [Decidable P] : nar .boolean (bI P) = bI P := by unfold bI; split <;> rfl
end OwnKit
section OwnKit2
variable {p : Program} {l : Launch} {e : Env} {R : Room} {s : State} {m : MethodId} {args : Array Value} {below : List Frame} {meth : Method} {c : Code} {T : State} {locs : List Loc} {cells slots : Nat} {Z : State} {a0 : Array Value} {h : Heap}
theorem ArF.arv {h : Heap} {a : Addr} {ty : FieldType} {n : Nat} {f : Nat → Value} (F : ArF Z h a ty n f) (hf : ∀ i, i < n → fits ty (f i) = true) (dv : Value) : ∃ k, Arv Z h a k ty (Int32.ofNat n) ((List.range n).map f) dv := by
  obtain ⟨c, A, r1, r2, r3⟩ := F
  have g : ∀ i, i < n → ((List.range n).map f).getD i dv = f i := fun i hi => by simp [List.getD_eq_getElem?_getD, hi]
  refine ⟨c.cls, c, A, rfl, by rw [own_ofC r2]; exact r1, ?_, fun i hi => ?_, fun i hi => ?_⟩
  · rw [Int32.lt_iff_toInt_lt, own_ofN r2]; have : (0 : Int32).toInt = 0 := rfl; omega
  · rw [g i (by omega)]; exact r3 i (by omega)
  · rw [g i (by omega)]; exact hf i (by omega)
theorem ArF.of_arv {h : Heap} {a : Addr} {k : ClassId} {ty : FieldType} {z : Int32} {vs : List Value} {dv : Value} (F : Arv Z h a k ty z vs dv) : ArF Z h a ty z.toNatClampNeg (fun i => vs.getD i dv) := by
  obtain ⟨c, A, -, r1, r2, H, -⟩ := F
  exact ⟨c, A, r1, (back32 r2).2, fun i hi => H i (by omega)⟩
/-- System.arraycopy of primitives -/
theorem own_cp (X : Stand p l e R s m args below meth c T locs cells slots) (hx : p.tables.exec = Jvm.exec) (hZ : Z.Warmed39 s.vm) {own : String} {index : Nat} (hown : s.vm.findClass own = some m.cls)
    (w1 : (Jvm.Cond.methodLink own index Jvm.Stand.acN).before a0 Z = true) (w2 : (Jvm.Cond.native Jvm.Stand.acN).before a0 Z = true) (w3 : (Jvm.Cond.static Jvm.Stand.acN).before a0 Z = true) (w4 : (Jvm.Cond.initialized "java/lang/System").before a0 Z = true) (eT : T.heap = h)
    {a b : Addr} {ty : FieldType} (hty : refKind ty = false) {n n' : Nat} {f f' : Nat → Value} (A : ArF Z h a ty n f) (B : ArF Z h b ty n' f') (fa : ∀ i, i < n → fits ty (f i) = true) (fb : ∀ i, i < n' → fits ty (f' i) = true)
    {sp dp nn : Int32} (h1 : 0 ≤ sp.toInt) (h2 : 0 ≤ dp.toInt) (h3 : 0 ≤ nn.toInt) (h4 : sp.toInt + nn.toInt ≤ n) (h5 : dp.toInt + nn.toInt ≤ n') {n0 : Nat} (N : Fr n0 locs) (ge : n0 ≤ b)
    {g : JFrame} (hg : g.method = m) (hsize : g.locals.size = c.maxLocals) {rest : List Value} (hs : g.stack = .int nn :: .int dp :: .ref b :: .int sp :: .ref a :: rest) (hd : decode c.code g.pc = .ok (.invokestatic index, 3))
    (hf : 1 ≤ R.frames) {W : Nat} (hW : 2 * g.monitorRoom + (rest.map fun v => v.category).sum ≤ W) (hlo : W + (nativeFrameWords "java/lang/System" "arraycopy" 5 + 11) ≤ R.locals) :
    ∃ T' h' L, Stand p l e R s m args below meth c T' L cells slots ∧ T'.heap = h' ∧ Fr n0 L ∧ Keep h h' [b] ∧ ArF Z h' b ty n' (fun i => if dp.toNatClampNeg ≤ i ∧ i < dp.toNatClampNeg + nn.toNatClampNeg then f (sp.toNatClampNeg + (i - dp.toNatClampNeg)) else f' i) ∧
      ∀ target, Steps p.tables e below (T'.setTop { g with pc := g.pc + 3, stack := rest }) target → Steps p.tables e below (T.setTop g) target := by
  have nA := A.n31; have nB := B.n31
  have z0 : (0 : Int32).toInt = 0 := rfl
  have k1 := own_nat h1; have k2 := own_nat h2; have k3 := own_nat h3
  obtain ⟨ka, VA⟩ := A.arv fa .null
  obtain ⟨kb, VB⟩ := B.arv fb .null
  obtain ⟨T', h', L, X', eh, N', K', V', st⟩ := cpA X hx hZ hown w1 w2 w3 w4 eT VA VB (Or.inl ⟨rfl, hty⟩) (by rw [Int32.lt_iff_toInt_lt]; omega) (by rw [Int32.lt_iff_toInt_lt]; omega) (by rw [Int32.lt_iff_toInt_lt]; omega) (sp := sp) (dp := dp) (nn := nn)
    (by rw [own_ofC nA]; omega) (by rw [own_ofC nB]; omega) rfl (by simp; omega) N ge hg hsize hs hd hf hW hlo
  refine ⟨T', h', L, X', eh, N', K', ?_, st⟩
  have V := ArF.of_arv V'
  rw [own_ofC nB] at V
  refine V.congr fun i hi => ?_
  have lt : (List.take dp.toNatClampNeg ((List.range n').map f')).length = dp.toNatClampNeg := by rw [List.length_take]; simp; omega
  have lu : ((List.range nn.toNatClampNeg).map fun i => ((List.range n).map f).getD (sp.toNatClampNeg + i) Value.null).length = nn.toNatClampNeg := by simp
  simp only [List.getD_eq_getElem?_getD]
  by_cases c1 : i < dp.toNatClampNeg
  · rw [if_neg (by omega), List.append_assoc, List.getElem?_append_left (by omega), List.getElem?_take_of_lt c1]
    simp [hi]
  · by_cases c2 : i < dp.toNatClampNeg + nn.toNatClampNeg
    · rw [if_pos ⟨by omega, c2⟩, List.getElem?_append_left (by rw [List.length_append, lt]; simp; omega), List.getElem?_append_right (by omega), lt]
      have q1 : i - dp.toNatClampNeg < nn.toNatClampNeg := by omega
      have q2 : sp.toNatClampNeg + (i - dp.toNatClampNeg) < n := by omega
      simp [q1, q2]
    · rw [if_neg (by omega), List.getElem?_append_right (by rw [List.length_append, lt]; simp; omega), List.length_append, lt, List.getElem?_drop]
      have q : dp.toNatClampNeg + nn.toNatClampNeg + (i - (dp.toNatClampNeg + nn.toNatClampNeg)) = i := by omega
      simp [q, hi]
/-- getfield whose entry is resolved -/
theorem own_getR (X : Stand p l e R s m args below meth c T locs cells slots) (hx : p.tables.exec = Jvm.exec) (hZ : Z.Warmed39 s.vm) {own O n d : String} {index : Nat} (hown : s.vm.findClass own = some m.cls) (w : (Jvm.Cond.fieldRef own index O n d).before a0 Z = true)
    (eT : T.heap = h) {a : Addr} {v : Value} (F : Fld Z h a O n d v) {g : JFrame} (hg : g.method = m) {rest : List Value} (hs : g.stack = .ref a :: rest) (hd : decode c.code g.pc = .ok (.getfield index, 3)) (target : State)
    (k : Steps p.tables e below (T.setTop { g with pc := g.pc + 3, stack := v :: rest }) target) : Steps p.tables e below (T.setTop g) target := by
  obtain ⟨cell, cf, kk, i, f, h1, h2, h3, h4, -, -, h7⟩ := F
  have hZT : Z.Warmed39 T.vm := wtrans hZ X.warmed
  have wT := Cond.fieldRef_warmed39 hZT w
  have hcur : (Z.setVm T.vm).vm.findClass own = some m.cls := by show T.vm.findClass own = _; rw [X.warmed.alike.findClass]; exact hown
  obtain ⟨c', k', i', f', q1, q2⟩ := Cond.fieldRef_spec (s := Z.setVm T.vm) (cur := m.cls) hcur wT
  obtain ⟨k'', hi, -⟩ := State.fieldFound?_setVm (s := Z) hZT.alike h2
  cases hi.symm.trans q1
  subst hg
  jvm_step X.here [hx, hd, getfield.wp_ready (e := e) (s := T) (f := g) X.here.top q2 h3 hs (by rw [eT]; exact h1) h4 h7]
  exact k
/-- a constructor by its contract, where the call's entry is resolved -/
theorem own_callIR (X : Stand p l e R s m args below meth c T locs cells slots) (hx : p.tables.exec = Jvm.exec) (hZ : Z.Warmed39 s.vm) {own : String} {index : Nat} {y : MethodName} {bytes : ByteArray} {maxL : Nat} (hy1 : y.name = "<init>") (hown : s.vm.findClass own = some m.cls)
    (w1 : (Jvm.Cond.methodRef own index y).before a0 Z = true) (w4 : (Jvm.Cond.instanceMethod y).before a0 Z = true) (w5 : (Jvm.Cond.initialized y.cls).before a0 Z = true) (w6 : (Jvm.Cond.code y bytes maxL none).before a0 Z = true) (hy : y.cls ≠ "java/lang/invoke/MethodHandle" ∧ y.cls ≠ "java/lang/invoke/VarHandle")
    {b : Addr} {rm : Room} {as' : Array Value} {Q : Option Value → Heap → List Loc → Prop} {W kc ks : Nat} (hM : Con l Z y bytes maxL none [] rm kc ks as' h Q) (hkc : rm.cells = kc) (hks : rm.slots = ks) (eT : T.heap = h) (hf : rm.frames + 1 ≤ R.frames) (hl : W + (maxL + 11) + rm.locals ≤ R.locals)
    {g : JFrame} (hg : g.method = m) (hsize : g.locals.size = c.maxLocals) {argsL rest : List Value} (hlen : ∀ sig, parseMethodDescriptor y.desc = some sig → argsL.length = sig.parameters.length) (hstack : g.stack = argsL.reverse ++ .ref b :: rest) (hW : 2 * g.monitorRoom + (rest.map fun v => v.category).sum ≤ W)
    (hdg : decode c.code g.pc = .ok (.invokespecial index, 3)) (has : (.ref b :: argsL).toArray = as') (hc : cells + kc ≤ R.cells) (hs : slots + ks ≤ R.slots) :
    ∃ v T' L, Stand p l e R s m args below meth c T' (locs ++ L) (cells + kc) (slots + ks) ∧ Q v T'.heap L ∧ ∀ target, Steps p.tables e below (T'.setTop { g with pc := g.pc + 3, stack := v.toList ++ rest }) target → Steps p.tables e below (T.setTop g) target := by
  subst hkc hks
  have hinst : (Jvm.Cond.instanceMethod y).before args s = true := mvT hZ w4
  have hcode : (Jvm.Cond.code y bytes maxL none).before args s = true := mvT hZ w6
  obtain ⟨obj, methO, hnO, hmO, hstO, habO⟩ := Cond.instanceMethod_spec hinst
  obtain ⟨methO', cO, hmO', hcO, hbO, hlO, -, hlockO, -, hsigO⟩ := Cond.code_spec hnO hcode
  cases hmO.symm.trans hmO'
  obtain ⟨kO, hkO, hnameO⟩ := className_of_methodNamed hnO
  obtain ⟨hnameMO, hdescO⟩ := name_of_methodNamed hnO hmO
  obtain ⟨objZ, methZ, hnZ, -⟩ := Cond.instanceMethod_spec w4
  have hZT : Z.Warmed39 T.vm := wtrans hZ X.warmed
  have wT := Cond.methodRef_warmed39 hZT hnZ hy w1
  have hcur : (Z.setVm T.vm).vm.findClass own = some m.cls := by show T.vm.findClass own = _; rw [X.warmed.alike.findClass]; exact hown
  obtain ⟨m1, c1, q1, q2, q3, q4⟩ := Cond.methodRef_named e (s := Z.setVm T.vm) (cur := m.cls) hcur wT
  have hnT : T.methodNamed? y = some obj := X.named hnO
  have hnT' : (Z.setVm T.vm).methodNamed? y = some obj := hnT
  have e1 : m1 = obj := by
    have := State.methodFound?_of_named hnT' hy
    rw [q1] at this; exact Option.some.inj this
  subst e1
  have e2 : c1 = m1.cls := Option.some.inj (q3.symm.trans (findClass_of_methodNamed hnT'))
  subst e2
  obtain ⟨kT, hkT, heT⟩ := X.warmed.alike.2.2 _ _ hkO
  have hmT : T.vm.method? m1 = some methO := by rw [X.warmed.alike.method?]; exact hmO
  have hfound : lookupSpecial T.vm m1.cls "<init>" methO.desc = .method m1 := by
    rw [X.warmed.alike.lookupSpecial, hdescO, ← hy1]; exact lookupSpecial_of_named hnO hmO hstO
  have hK := backOf (W := W) (R := R) (p := p) (e := e) (below := below) (args := args) (len := 3) hM hZ w6 w5 hf hl
  obtain ⟨v, ⟨T', L', c', s'⟩, X', ⟨L, hq, l1, l2, l3⟩, st⟩ := hK m meth c ⟨T, locs, cells, slots⟩ { g with stack := rest } (.invokespecial index) m1 (.ref b :: argsL).toArray X hg hsize hdg hW hnT ⟨has, eT, hc, hs⟩
  dsimp only [Pt.U, Pt.locs, Pt.cells, Pt.slots] at X' l1 l2 l3 st hq
  subst l1 l2 l3
  refine ⟨v, T', L, X', hq, fun target k => ?_⟩
  subst hg
  jvm_step X.here [hx, hdg, invokespecial.wp_init (e := e) (s := T) (k := kT) (meth := methO) (m := m1) (a := b) (args := argsL) (rest := rest) (f := g) X.here.top q4 q2 hkT hmT (by rw [hnameMO]; exact hy1) hstO habO hfound (hlen _ hsigO) hstack]
  intro acts
  rw [doInvoke_state]
  exact st.trans k
theorem own_stD (X : Stand p l e R s m args below meth c T locs cells slots) (hx : p.tables.exec = Jvm.exec) (hZ : Z.Warmed39 s.vm) (eT : T.heap = h) {a : Addr} {n : Nat} {f : Nat → Value} (A : ArF Z h a .double n f) {j : Int32} {x : UInt64} (h1 : 0 ≤ j.toInt) (h2 : j.toInt < n)
    {g : JFrame} (hg : g.method = m) {rest : List Value} (hs : g.stack = .double x :: .int j :: .ref a :: rest) (hd : decode c.code g.pc = .ok (.dastore, 1)) :
    ∃ T' h', Stand p l e R s m args below meth c T' (locs ++ [⟨a, j.toNatClampNeg⟩]) cells slots ∧ T'.heap = h' ∧ Wr h h' a j.toNatClampNeg (.double x) ∧ ∀ target, Steps p.tables e below (T'.setTop { g with pc := g.pc + 1, stack := rest }) target → Steps p.tables e below (T.setTop g) target := by
  obtain ⟨cl, Ar, S, -, H⟩ := A
  exact stD X hx hZ eT Ar (own_in S h1 h2) hg hs hd
end OwnKit2
section OwnKit3
variable {p : Program} {l : Launch} {e : Env} {R : Room} {s : State} {m : MethodId} {args : Array Value} {below : List Frame} {meth : Method} {c : Code} {T : State} {locs : List Loc} {cells slots : Nat} {Z : State} {a0 : Array Value} {h : Heap}
/-- a class that declares a method finds it; that it is no interface: by a word of another of its methods -/
theorem own_sm {y y' : MethodName} {C : String} (w1 : (Jvm.Cond.instanceMethod y).before a0 Z = true) (hy : y.cls ≠ "java/lang/invoke/MethodHandle" ∧ y.cls ≠ "java/lang/invoke/VarHandle") (w2 : (Jvm.Cond.selects C y' y').before a0 Z = true) (hc : y'.cls = y.cls) : (Jvm.Cond.sameMethod y.cls y.cls y.name y.desc).before a0 Z = true := by
  obtain ⟨mk, methM, hnamed, hmethM, hstM, habM⟩ := Cond.instanceMethod_spec w1
  obtain ⟨c2, r2, m2, q1, q2, q3, q4, kP, hkP, hkPi⟩ := Cond.selects_spec w2
  have h1 := findClass_of_methodNamed hnamed
  have h2 := findClass_of_methodNamed q3
  rw [hc, h1] at h2
  have h3 := State.methodFound?_of_named hnamed hy
  have h4 : Z.methodNamed? ⟨y.cls, y.name, y.desc⟩ = some mk := hnamed
  have h2' : mk.cls = m2.cls := Option.some.inj h2
  rw [← h2'] at hkP
  simp only [Cond.before, Cond.holds, Cond.value, h1, h3, h4]
  simp [hkP, hkPi]
theorem own_pureOf {v : Option Value} {n : Nat} {g : JFrame} {rest : List Value} (H : ∃ v' T' L, Stand p l e R s m args below meth c T' (locs ++ L) (cells + 0) (slots + 0) ∧ (v' = v ∧ T'.heap = h ∧ L = []) ∧ ∀ target, Steps p.tables e below (T'.setTop { g with pc := g.pc + n, stack := v'.toList ++ rest }) target → Steps p.tables e below (T.setTop g) target) :
    ∃ T', Stand p l e R s m args below meth c T' locs cells slots ∧ T'.heap = h ∧ ∀ target, Steps p.tables e below (T'.setTop { g with pc := g.pc + n, stack := v.toList ++ rest }) target → Steps p.tables e below (T.setTop g) target := by
  obtain ⟨v', T', L, X', ⟨e1, e2, e3⟩, st⟩ := H
  subst e1 e3
  rw [List.append_nil] at X'
  exact ⟨T', X', e2, st⟩
/-- a superclass's method by invokespecial -/
theorem own_callU (X : Stand p l e R s m args below meth c T locs cells slots) (hx : p.tables.exec = Jvm.exec) (hZ : Z.Warmed39 s.vm) {own C K : String} {index : Nat} {y y' : MethodName} {bytes : ByteArray} {maxL : Nat} {ret : Option FieldType} (hown : s.vm.findClass own = some m.cls) (hn : y.name ≠ "<init>")
    (w1 : (Jvm.Cond.methodLink own index y).before a0 Z = true) (w2 : (Jvm.Cond.selects C y' y').before a0 Z = true) (hc' : y'.cls = y.cls) (w3 : (Jvm.Cond.superclass own y.cls).before a0 Z = true) (w4 : (Jvm.Cond.instanceMethod y).before a0 Z = true) (w5 : (Jvm.Cond.initialized y.cls).before a0 Z = true) (w6 : (Jvm.Cond.code y bytes maxL ret).before a0 Z = true) (hy : y.cls ≠ "java/lang/invoke/MethodHandle" ∧ y.cls ≠ "java/lang/invoke/VarHandle")
    {b : Addr} (E : Exa Z h b K) {rm : Room} {as' : Array Value} {Q : Option Value → Heap → List Loc → Prop} {W kc ks : Nat} (hM : Con l Z y bytes maxL ret [] rm kc ks as' h Q) (hkc : rm.cells = kc) (hks : rm.slots = ks) (eT : T.heap = h) (hf : rm.frames + 1 ≤ R.frames) (hl : W + (maxL + 11) + rm.locals ≤ R.locals)
    {g : JFrame} (hg : g.method = m) (hsize : g.locals.size = c.maxLocals) {argsL rest : List Value} (hlen : ∀ sig, parseMethodDescriptor y.desc = some sig → argsL.length = sig.parameters.length) (hstack : g.stack = argsL.reverse ++ .ref b :: rest) (hW : 2 * g.monitorRoom + (rest.map fun v => v.category).sum ≤ W)
    (hdg : decode c.code g.pc = .ok (.invokespecial index, 3)) (has : (.ref b :: argsL).toArray = as') (hc : cells + kc ≤ R.cells) (hs : slots + ks ≤ R.slots) :
    ∃ v T' L, Stand p l e R s m args below meth c T' (locs ++ L) (cells + kc) (slots + ks) ∧ Q v T'.heap L ∧ ∀ target, Steps p.tables e below (T'.setTop { g with pc := g.pc + 3, stack := v.toList ++ rest }) target → Steps p.tables e below (T.setTop g) target := by
  subst hkc hks
  obtain ⟨v, vm₁, ⟨T', L', c', s'⟩, -, X', ⟨L, hq, l1, l2, l3⟩, st⟩ := superBack X hx hZ (y := y) hown w1 (own_sm w4 hy w2 hc') w4 w3 hn (backOf (W := W) hM hZ w6 w5 hf hl) eT (Ins.self E) hg hsize w6 (argsL := argsL) (rest := rest) hlen hstack hW hdg (fun _ _ => ⟨has, eT, hc, hs⟩)
  dsimp only [Pt.U, Pt.locs, Pt.cells, Pt.slots] at X' l1 l2 l3 st hq
  subst l1 l2 l3
  exact ⟨v, T', L, X', hq, fun _ k => st.trans k⟩
/-- a private instance method by invokevirtual; that its class is no interface: by a word of another of its methods -/
theorem own_callP (X : Stand p l e R s m args below meth c T locs cells slots) (hx : p.tables.exec = Jvm.exec) (hZ : Z.Warmed39 s.vm) {own C K : String} {index : Nat} {y y' : MethodName} {bytes : ByteArray} {maxL : Nat} {ret : Option FieldType} (hown : s.vm.findClass own = some m.cls)
    (w1 : (Jvm.Cond.methodLink own index y).before a0 Z = true) (w2 : (Jvm.Cond.selects C y' y').before a0 Z = true) (hc' : y'.cls = y.cls) (w3 : (Jvm.Cond.privateMethod y).before a0 Z = true) (w4 : (Jvm.Cond.instanceMethod y).before a0 Z = true) (w5 : (Jvm.Cond.initialized y.cls).before a0 Z = true) (w6 : (Jvm.Cond.code y bytes maxL ret).before a0 Z = true) (hy : y.cls ≠ "java/lang/invoke/MethodHandle" ∧ y.cls ≠ "java/lang/invoke/VarHandle")
    {b : Addr} (E : Exa Z h b K) {rm : Room} {as' : Array Value} {Q : Option Value → Heap → List Loc → Prop} {W kc ks : Nat} (hM : Con l Z y bytes maxL ret [] rm kc ks as' h Q) (hkc : rm.cells = kc) (hks : rm.slots = ks) (eT : T.heap = h) (hf : rm.frames + 1 ≤ R.frames) (hl : W + (maxL + 11) + rm.locals ≤ R.locals)
    {g : JFrame} (hg : g.method = m) (hsize : g.locals.size = c.maxLocals) {argsL rest : List Value} (hlen : ∀ sig, parseMethodDescriptor y.desc = some sig → argsL.length = sig.parameters.length) (hstack : g.stack = argsL.reverse ++ .ref b :: rest) (hW : 2 * g.monitorRoom + (rest.map fun v => v.category).sum ≤ W)
    (hdg : decode c.code g.pc = .ok (.invokevirtual index, 3)) (has : (.ref b :: argsL).toArray = as') (hc : cells + kc ≤ R.cells) (hs : slots + ks ≤ R.slots) :
    ∃ v T' L, Stand p l e R s m args below meth c T' (locs ++ L) (cells + kc) (slots + ks) ∧ Q v T'.heap L ∧ ∀ target, Steps p.tables e below (T'.setTop { g with pc := g.pc + 3, stack := v.toList ++ rest }) target → Steps p.tables e below (T.setTop g) target := by
  subst hkc hks
  have hinst : (Jvm.Cond.instanceMethod y).before args s = true := mvT hZ w4
  have hpriv := Cond.privateMethod_at (mvP (args := #[]) hZ w3)
  have w2' : (Jvm.Cond.selects C y' y').before args s = true := mvT hZ w2
  obtain ⟨mk, methM, hnamed, hmethM, hstM, habM⟩ := Cond.instanceMethod_spec hinst
  obtain ⟨methM', cM, hmethM', -, -, -, -, -, -, hsigM⟩ := Cond.code_spec hnamed (mvT (args := args) hZ w6)
  cases hmethM.symm.trans hmethM'
  obtain ⟨c2, r2, m2, -, -, q3, -, kP, hkP, hkPi⟩ := Cond.selects_spec w2'
  have h1 := findClass_of_methodNamed hnamed
  have h2 := findClass_of_methodNamed q3
  rw [hc', h1] at h2
  have h2' : mk.cls = m2.cls := Option.some.inj h2
  rw [← h2'] at hkP
  obtain ⟨cell, hcell, hobj⟩ := E.cell
  have hselP : selectMethod e.platform s.vm cell.cls mk = .method mk := selectMethod_private hmethM (hpriv mk methM hnamed hmethM)
  obtain ⟨vm₁, X₁, hstep₁⟩ := X.invokevirtual hx hown (mvT hZ w1) hnamed hmethM hstM hkP hkPi hy (a := b) (cell := cell) (by rw [eT]; exact hcell) hobj hselP hmethM habM hkP hkPi (g := g) hg (argsL := argsL) (rest := rest) (hlen _ hsigM) hstack hdg
  obtain ⟨v, ⟨T', L', c', s'⟩, X', ⟨L, hq, l1, l2, l3⟩, st⟩ := (backOf (W := W) (R := R) (p := p) (e := e) (below := below) (args := args) (len := 3) hM hZ w6 w5 hf hl) m meth c ⟨T.setVm vm₁, locs, cells, slots⟩ { g with stack := rest } (.invokevirtual index) mk (.ref b :: argsL).toArray X₁ hg hsize hdg hW (X₁.named hnamed) ⟨has, eT, hc, hs⟩
  dsimp only [Pt.U, Pt.locs, Pt.cells, Pt.slots] at X' l1 l2 l3 st hq
  subst l1 l2 l3
  exact ⟨v, T', L, X', hq, fun _ k => hstep₁ _ fun acts => by rw [doInvoke_state]; exact st.trans k⟩
/-- an instance method that a subclass overrides -/
theorem own_callZ (X : Stand p l e R s m args below meth c T locs cells slots) (hx : p.tables.exec = Jvm.exec) (hZ : Z.Warmed39 s.vm) {own C C' : String} {index : Nat} {y z y' : MethodName} {bytes : ByteArray} {maxL : Nat} {ret : Option FieldType} (hown : s.vm.findClass own = some m.cls)
    (w1 : (Jvm.Cond.methodLink own index y).before a0 Z = true) (w2 : (Jvm.Cond.declares y).before a0 Z = true) (w3 : (Jvm.Cond.selects C y z).before a0 Z = true) (w7 : (Jvm.Cond.selects C' y' y').before a0 Z = true) (hc' : y'.cls = y.cls) (w4 : (Jvm.Cond.instanceMethod z).before a0 Z = true) (w5 : (Jvm.Cond.initialized z.cls).before a0 Z = true) (w6 : (Jvm.Cond.code z bytes maxL ret).before a0 Z = true) (hy : y.cls ≠ "java/lang/invoke/MethodHandle" ∧ y.cls ≠ "java/lang/invoke/VarHandle")
    {b : Addr} (E : Exa Z h b C) {rm : Room} {as' : Array Value} {Q : Option Value → Heap → List Loc → Prop} {W kc ks : Nat} (hM : Con l Z z bytes maxL ret [] rm kc ks as' h Q) (hkc : rm.cells = kc) (hks : rm.slots = ks) (eT : T.heap = h) (hf : rm.frames + 1 ≤ R.frames) (hl : W + (maxL + 11) + rm.locals ≤ R.locals)
    {g : JFrame} (hg : g.method = m) (hsize : g.locals.size = c.maxLocals) {argsL rest : List Value} (hlen : ∀ sig, parseMethodDescriptor y.desc = some sig → argsL.length = sig.parameters.length) (hstack : g.stack = argsL.reverse ++ .ref b :: rest) (hW : 2 * g.monitorRoom + (rest.map fun v => v.category).sum ≤ W)
    (hdg : decode c.code g.pc = .ok (.invokevirtual index, 3)) (has : (.ref b :: argsL).toArray = as') (hc : cells + kc ≤ R.cells) (hs : slots + ks ≤ R.slots) :
    ∃ v T' L, Stand p l e R s m args below meth c T' (locs ++ L) (cells + kc) (slots + ks) ∧ Q v T'.heap L ∧ ∀ target, Steps p.tables e below (T'.setTop { g with pc := g.pc + 3, stack := v.toList ++ rest }) target → Steps p.tables e below (T.setTop g) target := by
  subst hkc hks
  obtain ⟨cq, kq, qa, qb, qc⟩ := isOf hZ eT E
  have w7' : (Jvm.Cond.selects C' y' y').before args s = true := mvT hZ w7
  have nf : NotFace s y := fun r0 h0 => by
    obtain ⟨c2, r2, m2, -, -, q3, -, kP, hkP, hkPi⟩ := Cond.selects_spec w7'
    have h1 := findClass_of_methodNamed h0
    have h2 := findClass_of_methodNamed q3
    rw [hc', h1] at h2
    have h2' : r0.cls = m2.cls := Option.some.inj h2
    rw [← h2'] at hkP
    exact ⟨kP, hkP, hkPi⟩
  obtain ⟨v, vm₁, ⟨T', L', c', s'⟩, -, X', ⟨L, hq, l1, l2, l3⟩, st⟩ := X.virtualBack hx (y := y) (z := z) hown (mvT hZ w1) (mvT hZ w2) nf (mvT hZ w3) (mvT hZ w4) hy (backOf (W := W) hM hZ w6 w5 hf hl) qa qc hg hsize (Steps.refl _) (argsL := argsL) (rest := rest) hlen hstack hW hdg (fun _ _ => ⟨has, eT, hc, hs⟩)
  dsimp only [Pt.U, Pt.locs, Pt.cells, Pt.slots] at X' l1 l2 l3 st hq
  subst l1 l2 l3
  exact ⟨v, T', L, X', hq, fun _ k => st.trans k⟩
/-- an interface's method -/
theorem own_callF (X : Stand p l e R s m args below meth c T locs cells slots) (hx : p.tables.exec = Jvm.exec) (hZ : Z.Warmed39 s.vm) {own C : String} {index count : Nat} {xi y : MethodName} {bytes : ByteArray} {maxL : Nat} {ret : Option FieldType} (hown : s.vm.findClass own = some m.cls)
    (w1 : (Jvm.Cond.methodLink own index xi).before a0 Z = true) (w2 : (Jvm.Cond.declares xi).before a0 Z = true) (wf : (Jvm.Cond.interfaceMethod xi.cls xi.cls xi.name xi.desc).before a0 Z = true) (w3 : (Jvm.Cond.selects C xi y).before a0 Z = true) (w4 : (Jvm.Cond.instanceMethod y).before a0 Z = true) (wp : (Jvm.Cond.publicMethod y).before a0 Z = true) (wu : (Jvm.Cond.unhidden C xi.name xi.desc).before a0 Z = true) (wk : (Jvm.Cond.castable C xi.cls).before a0 Z = true)
    (hfa : ((Jvm.Cond.interfaceMethod xi.cls xi.cls xi.name xi.desc).onTables && (Jvm.Cond.interfaceMethod xi.cls xi.cls xi.name xi.desc).keepsFace) = true) (hfb : ((Jvm.Cond.selects C xi y).onTables && (Jvm.Cond.selects C xi y).keepsFace) = true)
    (w5 : (Jvm.Cond.initialized y.cls).before a0 Z = true) (w6 : (Jvm.Cond.code y bytes maxL ret).before a0 Z = true) (hy : xi.cls ≠ "java/lang/invoke/MethodHandle" ∧ xi.cls ≠ "java/lang/invoke/VarHandle")
    {b : Addr} (E : Exa Z h b C) {rm : Room} {as' : Array Value} {Q : Option Value → Heap → List Loc → Prop} {W kc ks : Nat} (hM : Con l Z y bytes maxL ret [] rm kc ks as' h Q) (hkc : rm.cells = kc) (hks : rm.slots = ks) (eT : T.heap = h) (hf : rm.frames + 1 ≤ R.frames) (hl : W + (maxL + 11) + rm.locals ≤ R.locals)
    {g : JFrame} (hg : g.method = m) (hsize : g.locals.size = c.maxLocals) {argsL rest : List Value} (hlen : ∀ sig, parseMethodDescriptor xi.desc = some sig → argsL.length = sig.parameters.length) (hstack : g.stack = argsL.reverse ++ .ref b :: rest) (hW : 2 * g.monitorRoom + (rest.map fun v => v.category).sum ≤ W)
    (hdg : decode c.code g.pc = .ok (.invokeinterface index count, 5)) (has : (.ref b :: argsL).toArray = as') (hc : cells + kc ≤ R.cells) (hs : slots + ks ≤ R.slots) :
    ∃ v T' L, Stand p l e R s m args below meth c T' (locs ++ L) (cells + kc) (slots + ks) ∧ Q v T'.heap L ∧ ∀ target, Steps p.tables e below (T'.setTop { g with pc := g.pc + 5, stack := v.toList ++ rest }) target → Steps p.tables e below (T.setTop g) target := by
  subst hkc hks
  obtain ⟨cq, kq, qa, qb, qc⟩ := isOf hZ eT E
  obtain ⟨v, vm₁, ⟨T', L', c', s'⟩, -, X', ⟨L, hq, l1, l2, l3⟩, st⟩ := X.interfaceBack hx (xi := xi) (y := y) hown (mvT hZ w1) (mvT hZ w2) (mvT hZ wf hfa) (mvT hZ w3 hfb) (mvT hZ w4) (mvT hZ wp) (mvT hZ wu) (mvT hZ wk) hy (backOf (W := W) hM hZ w6 w5 hf hl) qa qb qc hg hsize (Steps.refl _) (argsL := argsL) (rest := rest) hlen hstack hW hdg (fun _ _ => ⟨has, eT, hc, hs⟩)
  dsimp only [Pt.U, Pt.locs, Pt.cells, Pt.slots] at X' l1 l2 l3 st hq
  subst l1 l2 l3
  exact ⟨v, T', L, X', hq, fun _ k => st.trans k⟩
theorem own_callFP (X : Stand p l e R s m args below meth c T locs cells slots) (hx : p.tables.exec = Jvm.exec) (hZ : Z.Warmed39 s.vm) {own C : String} {index count : Nat} {xi y : MethodName} {bytes : ByteArray} {maxL : Nat} {ret : Option FieldType} (hown : s.vm.findClass own = some m.cls)
    (w1 : (Jvm.Cond.methodLink own index xi).before a0 Z = true) (w2 : (Jvm.Cond.declares xi).before a0 Z = true) (wf : (Jvm.Cond.interfaceMethod xi.cls xi.cls xi.name xi.desc).before a0 Z = true) (w3 : (Jvm.Cond.selects C xi y).before a0 Z = true) (w4 : (Jvm.Cond.instanceMethod y).before a0 Z = true) (wp : (Jvm.Cond.publicMethod y).before a0 Z = true) (wu : (Jvm.Cond.unhidden C xi.name xi.desc).before a0 Z = true) (wk : (Jvm.Cond.castable C xi.cls).before a0 Z = true)
    (hfa : ((Jvm.Cond.interfaceMethod xi.cls xi.cls xi.name xi.desc).onTables && (Jvm.Cond.interfaceMethod xi.cls xi.cls xi.name xi.desc).keepsFace) = true) (hfb : ((Jvm.Cond.selects C xi y).onTables && (Jvm.Cond.selects C xi y).keepsFace) = true)
    (w5 : (Jvm.Cond.initialized y.cls).before a0 Z = true) (w6 : (Jvm.Cond.code y bytes maxL ret).before a0 Z = true) (hy : xi.cls ≠ "java/lang/invoke/MethodHandle" ∧ xi.cls ≠ "java/lang/invoke/VarHandle")
    {b : Addr} (E : Exa Z h b C) {rm : Room} {as' : Array Value} {v : Option Value} {W : Nat} (hM : Con l Z y bytes maxL ret [] rm 0 0 as' h (fun v' h' L => v' = v ∧ h' = h ∧ L = [])) (hkc : rm.cells = 0) (hks : rm.slots = 0) (eT : T.heap = h) (hf : rm.frames + 1 ≤ R.frames) (hl : W + (maxL + 11) + rm.locals ≤ R.locals)
    {g : JFrame} (hg : g.method = m) (hsize : g.locals.size = c.maxLocals) {argsL rest : List Value} (hlen : ∀ sig, parseMethodDescriptor xi.desc = some sig → argsL.length = sig.parameters.length) (hstack : g.stack = argsL.reverse ++ .ref b :: rest) (hW : 2 * g.monitorRoom + (rest.map fun v => v.category).sum ≤ W)
    (hdg : decode c.code g.pc = .ok (.invokeinterface index count, 5)) (has : (.ref b :: argsL).toArray = as') (hc : cells ≤ R.cells := by decide) (hs : slots ≤ R.slots := by decide) :
    ∃ T', Stand p l e R s m args below meth c T' locs cells slots ∧ T'.heap = h ∧ ∀ target, Steps p.tables e below (T'.setTop { g with pc := g.pc + 5, stack := v.toList ++ rest }) target → Steps p.tables e below (T.setTop g) target := by
  obtain ⟨v', T', L, X', ⟨e1, e2, e3⟩, st⟩ := own_callF X hx hZ hown w1 w2 wf w3 w4 wp wu wk hfa hfb w5 w6 hy E hM hkc hks eT hf hl hg hsize hlen hstack hW hdg has hc hs
  subst e1 e3
  rw [List.append_nil] at X'
  exact ⟨T', X', e2, st⟩
theorem own_stB (X : Stand p l e R s m args below meth c T locs cells slots) (hx : p.tables.exec = Jvm.exec) (hZ : Z.Warmed39 s.vm) (eT : T.heap = h) {a : Addr} {n : Nat} {f : Nat → Value} (A : ArF Z h a .byte n f) {j x : Int32} (h1 : 0 ≤ j.toInt) (h2 : j.toInt < n)
    {g : JFrame} (hg : g.method = m) {rest : List Value} (hs : g.stack = .int x :: .int j :: .ref a :: rest) (hd : decode c.code g.pc = .ok (.bastore, 1)) :
    ∃ T' h', Stand p l e R s m args below meth c T' (locs ++ [⟨a, j.toNatClampNeg⟩]) cells slots ∧ T'.heap = h' ∧ Wr h h' a j.toNatClampNeg (.int (nar .byte x)) ∧ ∀ target, Steps p.tables e below (T'.setTop { g with pc := g.pc + 1, stack := rest }) target → Steps p.tables e below (T.setTop g) target := by
  obtain ⟨cl, Ar, S, -, H⟩ := A
  exact stB X hx hZ eT Ar (own_in S h1 h2) hg hs hd
/-- an array's clone -/
theorem own_clone (X : Stand p l e R s m args below meth c T locs cells slots) (hx : p.tables.exec = Jvm.exec) (hZ : Z.Warmed39 s.vm) {own ad : String} {index : Nat} (hown : s.vm.findClass own = some m.cls)
    (w1 : (Jvm.Cond.methodLink own index ⟨ad, "clone", "()Ljava/lang/Object;"⟩).before a0 Z = true) (w2 : (Jvm.Cond.sameMethod ad "java/lang/Object" "clone" "()Ljava/lang/Object;").before a0 Z = true) (w3 : (Jvm.Cond.native ⟨"java/lang/Object", "clone", "()Ljava/lang/Object;"⟩).before a0 Z = true)
    (w4 : (Jvm.Cond.instanceMethod ⟨"java/lang/Object", "clone", "()Ljava/lang/Object;"⟩).before a0 Z = true) (w5 : (Jvm.Cond.selects ad ⟨ad, "clone", "()Ljava/lang/Object;"⟩ ⟨"java/lang/Object", "clone", "()Ljava/lang/Object;"⟩).before a0 Z = true) (w6 : (Jvm.Cond.castable ad "java/lang/Cloneable").before a0 Z = true)
    (eT : T.heap = h) {a : Addr} {ty : FieldType} {n : Nat} {f : Nat → Value} (A : ArF Z h a ty n f) (E : Exa Z h a ad) (ff : ∀ i, i < n → fits ty (f i) = true) {g : JFrame} (hg : g.method = m) (hsize : g.locals.size = c.maxLocals) {rest : List Value} (hs : g.stack = .ref a :: rest) (hd : decode c.code g.pc = .ok (.invokevirtual index, 3))
    (hf : 1 ≤ R.frames) {W cap : Nat} (hW : 2 * g.monitorRoom + (rest.map fun v => v.category).sum ≤ W) (hl : W + 14 ≤ R.locals) (hcap : n ≤ cap) (hc : cells + 1 ≤ R.cells) (hsl : slots + cap ≤ R.slots) :
    ∃ T' h', Stand p l e R s m args below meth c T' locs (cells + 1) (slots + cap) ∧ T'.heap = h' ∧ Ext h h' ∧ ArF Z h' h.size ty n f ∧ Exa Z h' h.size ad ∧
      ∀ target, Steps p.tables e below (T'.setTop { g with pc := g.pc + 3, stack := .ref h.size :: rest }) target → Steps p.tables e below (T.setTop g) target := by
  obtain ⟨cl, Ar, S, B, H⟩ := A
  have FC : FitC Z cl := fun i v hv => by
    obtain ⟨hst, k, hk, comp, hkind⟩ := Ar.2.1
    have hi : i < n := by rw [← S]; exact (Array.getElem?_eq_some_iff.mp hv).1
    have u : Z.slotType? cl.cls .none i = some ty := by simp [State.slotType?, hk, hkind]
    have hv' : v = f i := Option.some.inj (hv.symm.trans (H i hi))
    simp [State.fitsSlot, u, hv', ff i hi]
  obtain ⟨T', h', X', e', ex, A', E', st⟩ := cloneA X hx hZ hown w1 w2 w3 w4 w5 w6 eT Ar E FC hg hsize hs hd hf hW hl (by rw [S]; exact hcap) hc hsl
  exact ⟨T', h', X', e', ex, ⟨cloneOf cl, A', S, B, H⟩, E', st⟩
end OwnKit3
def own_iv (f : Nat → Nat) : Nat → Value := fun i => .int (Int32.ofNat (f i))
def own_by (f : Nat → Nat) : Prop := ∀ i, f i < 128
theorem own_fit128 : ∀ c : Fin 128, fits .byte (.int (Int32.ofNat c.val)) = true ∧ nar .byte (Int32.ofNat c.val) = Int32.ofNat c.val ∧ ((Int32.ofNat c.val &&& 255).toUInt32.toUInt16.toUInt32.toInt32) = Int32.ofNat c.val ∧ nar .char (Int32.ofNat c.val) = Int32.ofNat c.val := by decide +kernel
theorem own_fitB {f : Nat → Nat} {n : Nat} (h : own_by f) : ∀ i, i < n → fits .byte (own_iv f i) = true := fun i _ => (own_fit128 ⟨f i, h i⟩).1
def own_up (f : Nat → Nat) (j c : Nat) : Nat → Nat := fun i => if i = j then c else f i
theorem own_upd {f : Nat → Nat} {j c : Nat} (hc : c < 128) : upd (own_iv f) j (.int (nar .byte (Int32.ofNat c))) = own_iv (own_up f j c) := by
  funext i; unfold upd own_iv own_up; rw [(own_fit128 ⟨c, hc⟩).2.1]; split <;> rfl
theorem own_by_up {f : Nat → Nat} {j c : Nat} (h : own_by f) (hc : c < 128) : own_by (own_up f j c) := fun i => by unfold own_up; split; exact hc; exact h i
def own_ones (i : Nat) : Nat := 48 + i % 10
def own_tens (i : Nat) : Nat := 48 + i / 10 % 10
def own_G (Z : State) (cs : Int32) (fv gv : Value) (d1 d2 : Addr) : Prop := ¬ cs = 0 ∧ Sta Z Z.heap "java/lang/String" "COMPACT_STRINGS" "Z" (.int cs) ∧ Sta Z Z.heap "jdk/internal/util/Preconditions" "IOOBE_FORMATTER" "Ljava/util/function/BiFunction;" fv ∧ fv.category = 1 ∧ Sta Z Z.heap "jdk/internal/util/Preconditions" "SIOOBE_FORMATTER" "Ljava/util/function/BiFunction;" gv ∧ gv.category = 1 ∧ Sta Z Z.heap "java/lang/Integer" "DigitOnes" "[B" (.ref d1) ∧ ArF Z Z.heap d1 .byte 100 (own_iv own_ones) ∧ Sta Z Z.heap "java/lang/Integer" "DigitTens" "[B" (.ref d2) ∧ ArF Z Z.heap d2 .byte 100 (own_iv own_tens)
def own_T (Z : State) (h : Heap) (t V : Addr) (n0 n : Nat) (f : Nat → Nat) : Prop := Exa Z h t "java/lang/String" ∧ Fld Z h t "java/lang/String" "value" "[B" (.ref V) ∧ Fld Z h t "java/lang/String" "coder" "B" (.int (0 : Int32)) ∧ ArF Z h V .byte n (own_iv f) ∧ n0 ≤ t ∧ n0 ≤ V ∧ t ≠ V
theorem own_T.keep {Z : State} {h h' : Heap} {t V : Addr} {n0 n : Nat} {f : Nat → Nat} {ws : List Addr} (H : own_T Z h t V n0 n f) (K : Keep h h' ws) (q1 : t ∉ ws) (q2 : V ∉ ws) : own_T Z h' t V n0 n f := by
  obtain ⟨a1, a2, a3, a4, r⟩ := H
  exact ⟨a1.keep K, a2.keep K q1, a3.keep K q1, a4.keep K q2, r⟩
theorem own_T.ext {Z : State} {h h' : Heap} {t V : Addr} {n0 n : Nat} {f : Nat → Nat} (H : own_T Z h t V n0 n f) (K : Ext h h') : own_T Z h' t V n0 n f := by
  obtain ⟨a1, a2, a3, a4, r⟩ := H
  exact ⟨a1.ext K, a2.ext K, a3.ext K, a4.ext K, r⟩
def own_SB (Z : State) (h : Heap) (b A : Addr) (n0 cap cnt : Nat) (g : Nat → Nat) : Prop := Exa Z h b "java/lang/StringBuilder" ∧ Fld Z h b "java/lang/AbstractStringBuilder" "value" "[B" (.ref A) ∧ Fld Z h b "java/lang/AbstractStringBuilder" "coder" "B" (.int (0 : Int32)) ∧ Fld Z h b "java/lang/AbstractStringBuilder" "count" "I" (.int (Int32.ofNat cnt)) ∧ ArF Z h A .byte cap (own_iv g) ∧ Exa Z h A "[B" ∧ n0 ≤ b ∧ n0 ≤ A ∧ b ≠ A ∧ own_by g
def own_D (b A t V : Addr) : Prop := b ≠ t ∧ b ≠ V ∧ A ≠ t ∧ A ≠ V
theorem own_sh0 (x : Int32) : x >>> ((0 : Int32) &&& 31) = x := by
  have e : ((0 : Int32) &&& 31) = 0 := by decide
  rw [e]; exact Int32.shiftRight_zero
theorem own_subN {a b : Nat} (h : a ≤ b) : Int32.ofNat b - Int32.ofNat a = Int32.ofNat (b - a) := by
  have e : b = (b - a) + a := by omega
  conv => lhs; lhs; rw [e, Int32.ofNat_add]
  exact Int32.add_sub_cancel _ _
theorem own_addN (a b : Nat) : Int32.ofNat a + Int32.ofNat b = Int32.ofNat (a + b) := (Int32.ofNat_add a b).symm
theorem own_ens {a b : Nat} (h : a ≤ b) (hb : b < 2 ^ 31) : ¬ (0 : Int32) < Int32.ofNat a - (Int32.ofNat b >>> ((0 : Int32) &&& 31)) := by
  rw [own_sh0, Int32.lt_iff_toInt_lt]
  have e := c_isub (Int32.ofNat a) (Int32.ofNat b)
  rw [own_ofN (by omega), own_ofN hb] at e
  have := rng32 (Int32.ofNat a - Int32.ofNat b)
  have z : (0 : Int32).toInt = 0 := rfl
  omega
theorem own_pn0 : plainFor (⟨"java/lang/String", "coder", "()B"⟩ : MethodName) = true := by first | exact plainFor_of_name (by first | (simp [plainName, overriddenIn, x]; done) | decide +kernel) | decide +kernel
theorem ef_9 (m : MethodId) (q0 : Addr) : entryFrame m #[(.ref q0)] 1 = mkF m 0 #[.val (.ref q0)] [] := by first | (simp [entryFrame, mkF, argsToLocals, Value.category, maxLocals]; done) | rfl
theorem d9_0 : decode jdk_42_method_152_code 0 = .ok (.getstatic 38, 3) := by decide +kernel
theorem d9_3 : decode jdk_42_method_152_code 3 = .ok (.ifCond .eq 10, 3) := by decide +kernel
theorem d9_6 : decode jdk_42_method_152_code 6 = .ok (.aload_n 0, 1) := by decide +kernel
theorem d9_7 : decode jdk_42_method_152_code 7 = .ok (.getfield 15, 3) := by decide +kernel
theorem d9_10 : decode jdk_42_method_152_code 10 = .ok (.goto 4, 3) := by decide +kernel
theorem d9_14 : decode jdk_42_method_152_code 14 = .ok (.ireturn, 1) := by decide +kernel
set_option maxRecDepth 65536 in
set_option maxHeartbeats 40000000 in
theorem own_c9 (l : Launch) (Z : State) (a0 : Array Value) (hw : ∀ d ∈ tables_1, d.before a0 Z = true) (cs : Int32) (fv gv : Value) (d1 d2 : Addr) (G : own_G Z cs fv gv d1 d2) (h0 : Heap) (n0 : Nat) (O0 : Old Z n0 h0) (t V : Addr) (n : Nat) (f : Nat → Nat) (H : own_T Z h0 t V n0 n f) :
    Con l Z (⟨"java/lang/String", "coder", "()B"⟩ : MethodName) jdk_42_method_152_code 1 (some .byte) [] ({ frames := 0, cells := 0, slots := 0, locals := 0 } : Room) 0 0 #[(.ref t)] h0 (fun r h L => r = some (.int (0 : Int32)) ∧ h = h0 ∧ L = []) := by
  refine Con.of own_pn0 ?_
  intro pg ev s_ m bl mt cd s₁ hx hby hml hown hnm hret hlk hZ X0 e0
  rw [ef_9]
  show Gd _ _ _ _ (s₁.setTop (mkF m 0 #[.val (.ref t)] []))
  obtain ⟨tE, tV, tC, tA, t1, t2, t3⟩ := H
  obtain ⟨T1, X1, e1, st1⟩ := getS2 X0 hx hZ hown (host := "") (Or.inl (hw _ (List.mem_of_getElem? (i := 68) rfl))) Via.refl e0 (G.2.1.ext O0.2) (g := (mkF m 0 #[.val (.ref t)] [])) rfl (hb hby d9_0)
  refine Gd.go (fun _ w_k => st1 _ w_k) ?_
  show Gd _ _ _ _ (T1.setTop (mkF m 3 #[.val (.ref t)] [(.int cs)]))
  refine Gd.go (fun _ w_k => XS.ifNo X1.here hx rfl (hb hby d9_3) rfl ((if0 _ _).trans (feq G.1).1) w_k) ?_
  show Gd _ _ _ _ (T1.setTop (mkF m 6 #[.val (.ref t)] []))
  refine Gd.go (fun _ w_k => XS.aloadN X1.here hx rfl (hb hby d9_6) rfl rfl w_k) ?_
  show Gd _ _ _ _ (T1.setTop (mkF m 7 #[.val (.ref t)] [(.ref t)]))
  obtain ⟨T2, X2, e2, st2⟩ := getF X1 hx hZ hown (host := "") (Or.inl (hw _ (List.mem_of_getElem? (i := 56) rfl))) Via.refl e1 tC (g := (mkF m 7 #[.val (.ref t)] [(.ref t)])) rfl rfl (hb hby d9_7)
  refine Gd.go (fun _ w_k => st2 _ w_k) ?_
  show Gd _ _ _ _ (T2.setTop (mkF m 10 #[.val (.ref t)] [(.int (0 : Int32))]))
  refine Gd.go (fun _ w_k => XS.goto X2.here hx rfl (pc0 := 10) (pc' := 14) rfl (hb hby d9_10) (by decide) (by decide) w_k) ?_
  show Gd _ _ _ _ (T2.setTop (mkF m 14 #[.val (.ref t)] [(.int (0 : Int32))]))
  refine own_retN (t := .byte) X2 hx hret hlk (by simp) (hb hby d9_14) ?_ (by decide) (by decide)
  exact ⟨rfl, e2, rfl⟩
theorem own_pn1 : plainFor (⟨"java/lang/String", "length", "()I"⟩ : MethodName) = true := by first | exact plainFor_of_name (by first | (simp [plainName, overriddenIn, x]; done) | decide +kernel) | decide +kernel
theorem ef_8 (m : MethodId) (q0 : Addr) : entryFrame m #[(.ref q0)] 1 = mkF m 0 #[.val (.ref q0)] [] := by first | (simp [entryFrame, mkF, argsToLocals, Value.category, maxLocals]; done) | rfl
theorem d8_0 : decode jdk_42_method_54_code 0 = .ok (.aload_n 0, 1) := by decide +kernel
theorem d8_1 : decode jdk_42_method_54_code 1 = .ok (.getfield 9, 3) := by decide +kernel
theorem d8_4 : decode jdk_42_method_54_code 4 = .ok (.arraylength, 1) := by decide +kernel
theorem d8_5 : decode jdk_42_method_54_code 5 = .ok (.aload_n 0, 1) := by decide +kernel
theorem own_pd0 : parseMethodDescriptor "()B" = some ⟨[], some .byte⟩ := by decide +kernel
theorem d8_6 : decode jdk_42_method_54_code 6 = .ok (.invokevirtual 335, 3) := by decide +kernel
theorem d8_9 : decode jdk_42_method_54_code 9 = .ok (.ishr, 1) := by decide +kernel
theorem d8_10 : decode jdk_42_method_54_code 10 = .ok (.ireturn, 1) := by decide +kernel
set_option maxRecDepth 65536 in
set_option maxHeartbeats 40000000 in
theorem own_c8 (l : Launch) (Z : State) (a0 : Array Value) (hw : ∀ d ∈ tables_1, d.before a0 Z = true) (cs : Int32) (fv gv : Value) (d1 d2 : Addr) (G : own_G Z cs fv gv d1 d2) (h0 : Heap) (n0 : Nat) (O0 : Old Z n0 h0) (t V : Addr) (n : Nat) (f : Nat → Nat) (H : own_T Z h0 t V n0 n f) :
    Con l Z (⟨"java/lang/String", "length", "()I"⟩ : MethodName) jdk_42_method_54_code 1 (some .int) [] ({ frames := 1, cells := 0, slots := 0, locals := 13 } : Room) 0 0 #[(.ref t)] h0 (fun r h L => r = some (.int (Int32.ofNat n)) ∧ h = h0 ∧ L = []) := by
  refine Con.of own_pn1 ?_
  intro pg ev s_ m bl mt cd s₁ hx hby hml hown hnm hret hlk hZ X0 e0
  rw [ef_8]
  show Gd _ _ _ _ (s₁.setTop (mkF m 0 #[.val (.ref t)] []))
  have H' := H
  obtain ⟨tE, tV, tC, tA, t1, t2, t3⟩ := H'
  refine Gd.go (fun _ w_k => XS.aloadN X0.here hx rfl (hb hby d8_0) rfl rfl w_k) ?_
  show Gd _ _ _ _ (s₁.setTop (mkF m 1 #[.val (.ref t)] [(.ref t)]))
  obtain ⟨T1, X1, e1, st1⟩ := getF X0 hx hZ hown (host := "") (Or.inl (hw _ (List.mem_of_getElem? (i := 54) rfl))) Via.refl e0 tV (g := (mkF m 1 #[.val (.ref t)] [(.ref t)])) rfl rfl (hb hby d8_1)
  refine Gd.go (fun _ w_k => st1 _ w_k) ?_
  show Gd _ _ _ _ (T1.setTop (mkF m 4 #[.val (.ref t)] [(.ref V)]))
  refine Gd.go (fun _ w_k => own_len X1 hx hZ e1 tA (z := (Int32.ofNat n)) rfl (g := (mkF m 4 #[.val (.ref t)] [(.ref V)])) rfl rfl (hb hby d8_4) _ w_k) ?_
  show Gd _ _ _ _ (T1.setTop (mkF m 5 #[.val (.ref t)] [(.int (Int32.ofNat n))]))
  refine Gd.go (fun _ w_k => XS.aloadN X1.here hx rfl (hb hby d8_5) rfl rfl w_k) ?_
  show Gd _ _ _ _ (T1.setTop (mkF m 6 #[.val (.ref t)] [(.ref t), (.int (Int32.ofNat n))]))
  obtain ⟨T2, X2, e2, st2⟩ := own_callVP X1 hx hZ (C := "java/lang/String") (y := (⟨"java/lang/String", "coder", "()B"⟩ : MethodName)) hown (hw _ (List.mem_of_getElem? (i := 63) rfl)) (hw _ (List.mem_of_getElem? (i := 64) rfl)) (hw _ (List.mem_of_getElem? (i := 66) rfl)) (hw _ (List.mem_of_getElem? (i := 65) rfl)) (hw _ (List.mem_of_getElem? (i := 37) rfl)) (hw _ (List.mem_of_getElem? (i := 67) rfl)) (by decide) tE (W := 1) (own_c9 l Z a0 hw cs fv gv d1 d2 G h0 n0 O0 t V n f H) rfl rfl e1 (by decide) (by decide) (g := (mkF m 6 #[.val (.ref t)] [(.ref t), (.int (Int32.ofNat n))])) rfl (by rw [hml]; rfl) (argsL := []) (rest := [(.int (Int32.ofNat n))]) (lenOf own_pd0 rfl) rfl (Nat.le_of_eq rfl) (hb hby d8_6) rfl
  refine Gd.go (fun _ w_k => st2 _ w_k) ?_
  show Gd _ _ _ _ (T2.setTop (mkF m 9 #[.val (.ref t)] [(.int (0 : Int32)), (.int (Int32.ofNat n))]))
  refine Gd.go (fun _ w_k => XS.ishr X2.here hx rfl (hb hby d8_9) rfl w_k) ?_
  show Gd _ _ _ _ (T2.setTop (mkF m 10 #[.val (.ref t)] [(.int ((Int32.ofNat n) >>> ((0 : Int32) &&& 31)))]))
  rw [own_sh0]
  show Gd _ _ _ _ (T2.setTop (mkF m 10 #[.val (.ref t)] [(.int (Int32.ofNat n))]))
  refine own_retI X2 hx hret hlk (hb hby d8_10) ?_ (by decide) (by decide)
  exact ⟨rfl, e2, rfl⟩
theorem own_pn2 : plainFor (⟨"java/lang/String", "isLatin1", "()Z"⟩ : MethodName) = true := by first | exact plainFor_of_name (by first | (simp [plainName, overriddenIn, x]; done) | decide +kernel) | decide +kernel
theorem ef_18 (m : MethodId) (q0 : Addr) : entryFrame m #[(.ref q0)] 1 = mkF m 0 #[.val (.ref q0)] [] := by first | (simp [entryFrame, mkF, argsToLocals, Value.category, maxLocals]; done) | rfl
theorem d18_0 : decode jdk_42_method_154_code 0 = .ok (.getstatic 38, 3) := by decide +kernel
theorem d18_3 : decode jdk_42_method_154_code 3 = .ok (.ifCond .eq 14, 3) := by decide +kernel
theorem d18_6 : decode jdk_42_method_154_code 6 = .ok (.aload_n 0, 1) := by decide +kernel
theorem d18_7 : decode jdk_42_method_154_code 7 = .ok (.getfield 15, 3) := by decide +kernel
theorem d18_10 : decode jdk_42_method_154_code 10 = .ok (.ifCond .ne 7, 3) := by decide +kernel
theorem d18_13 : decode jdk_42_method_154_code 13 = .ok (.iconst 1, 1) := by decide +kernel
theorem d18_14 : decode jdk_42_method_154_code 14 = .ok (.goto 4, 3) := by decide +kernel
theorem d18_18 : decode jdk_42_method_154_code 18 = .ok (.ireturn, 1) := by decide +kernel
set_option maxRecDepth 65536 in
set_option maxHeartbeats 40000000 in
theorem own_c18 (l : Launch) (Z : State) (a0 : Array Value) (hw : ∀ d ∈ tables_1, d.before a0 Z = true) (cs : Int32) (fv gv : Value) (d1 d2 : Addr) (G : own_G Z cs fv gv d1 d2) (h0 : Heap) (n0 : Nat) (O0 : Old Z n0 h0) (t V : Addr) (n : Nat) (f : Nat → Nat) (H : own_T Z h0 t V n0 n f) :
    Con l Z (⟨"java/lang/String", "isLatin1", "()Z"⟩ : MethodName) jdk_42_method_154_code 1 (some .boolean) [] ({ frames := 0, cells := 0, slots := 0, locals := 0 } : Room) 0 0 #[(.ref t)] h0 (fun r h L => r = some (.int (1 : Int32)) ∧ h = h0 ∧ L = []) := by
  refine Con.of own_pn2 ?_
  intro pg ev s_ m bl mt cd s₁ hx hby hml hown hnm hret hlk hZ X0 e0
  rw [ef_18]
  show Gd _ _ _ _ (s₁.setTop (mkF m 0 #[.val (.ref t)] []))
  obtain ⟨tE, tV, tC, tA, t1, t2, t3⟩ := H
  obtain ⟨T1, X1, e1, st1⟩ := getS2 X0 hx hZ hown (host := "") (Or.inl (hw _ (List.mem_of_getElem? (i := 68) rfl))) Via.refl e0 (G.2.1.ext O0.2) (g := (mkF m 0 #[.val (.ref t)] [])) rfl (hb hby d18_0)
  refine Gd.go (fun _ w_k => st1 _ w_k) ?_
  show Gd _ _ _ _ (T1.setTop (mkF m 3 #[.val (.ref t)] [(.int cs)]))
  refine Gd.go (fun _ w_k => XS.ifNo X1.here hx rfl (hb hby d18_3) rfl ((if0 _ _).trans (feq G.1).1) w_k) ?_
  show Gd _ _ _ _ (T1.setTop (mkF m 6 #[.val (.ref t)] []))
  refine Gd.go (fun _ w_k => XS.aloadN X1.here hx rfl (hb hby d18_6) rfl rfl w_k) ?_
  show Gd _ _ _ _ (T1.setTop (mkF m 7 #[.val (.ref t)] [(.ref t)]))
  obtain ⟨T2, X2, e2, st2⟩ := getF X1 hx hZ hown (host := "") (Or.inl (hw _ (List.mem_of_getElem? (i := 56) rfl))) Via.refl e1 tC (g := (mkF m 7 #[.val (.ref t)] [(.ref t)])) rfl rfl (hb hby d18_7)
  refine Gd.go (fun _ w_k => st2 _ w_k) ?_
  show Gd _ _ _ _ (T2.setTop (mkF m 10 #[.val (.ref t)] [(.int (0 : Int32))]))
  refine Gd.go (fun _ w_k => XS.ifNo X2.here hx rfl (hb hby d18_10) rfl ((if0 _ _).trans (teq (by decide)).2) w_k) ?_
  show Gd _ _ _ _ (T2.setTop (mkF m 13 #[.val (.ref t)] []))
  refine Gd.go (fun _ w_k => XS.iconst X2.here hx rfl (hb hby d18_13) w_k) ?_
  show Gd _ _ _ _ (T2.setTop (mkF m 14 #[.val (.ref t)] [(.int (1 : Int32))]))
  refine Gd.go (fun _ w_k => XS.goto X2.here hx rfl (pc0 := 14) (pc' := 18) rfl (hb hby d18_14) (by decide) (by decide) w_k) ?_
  show Gd _ _ _ _ (T2.setTop (mkF m 18 #[.val (.ref t)] [(.int (1 : Int32))]))
  refine own_retN (t := .boolean) X2 hx hret hlk (by simp) (hb hby d18_18) ?_ (by decide) (by decide)
  exact ⟨rfl, e2, rfl⟩
theorem own_pn3 : plainFor (⟨"java/lang/String", "value", "()[B"⟩ : MethodName) = true := by first | exact plainFor_of_name (by first | (simp [plainName, overriddenIn, x]; done) | decide +kernel) | decide +kernel
theorem ef_19 (m : MethodId) (q0 : Addr) : entryFrame m #[(.ref q0)] 1 = mkF m 0 #[.val (.ref q0)] [] := by first | (simp [entryFrame, mkF, argsToLocals, Value.category, maxLocals]; done) | rfl
theorem d19_0 : decode jdk_42_method_153_code 0 = .ok (.aload_n 0, 1) := by decide +kernel
theorem d19_1 : decode jdk_42_method_153_code 1 = .ok (.getfield 9, 3) := by decide +kernel
theorem d19_4 : decode jdk_42_method_153_code 4 = .ok (.areturn, 1) := by decide +kernel
set_option maxRecDepth 65536 in
set_option maxHeartbeats 40000000 in
theorem own_c19 (l : Launch) (Z : State) (a0 : Array Value) (hw : ∀ d ∈ tables_1, d.before a0 Z = true) (cs : Int32) (fv gv : Value) (d1 d2 : Addr) (G : own_G Z cs fv gv d1 d2) (h0 : Heap) (n0 : Nat) (O0 : Old Z n0 h0) (t V : Addr) (n : Nat) (f : Nat → Nat) (H : own_T Z h0 t V n0 n f) :
    Con l Z (⟨"java/lang/String", "value", "()[B"⟩ : MethodName) jdk_42_method_153_code 1 (some (.array .byte)) [] ({ frames := 0, cells := 0, slots := 0, locals := 0 } : Room) 0 0 #[(.ref t)] h0 (fun r h L => r = some (.ref V) ∧ h = h0 ∧ L = []) := by
  refine Con.of own_pn3 ?_
  intro pg ev s_ m bl mt cd s₁ hx hby hml hown hnm hret hlk hZ X0 e0
  rw [ef_19]
  show Gd _ _ _ _ (s₁.setTop (mkF m 0 #[.val (.ref t)] []))
  obtain ⟨tE, tV, tC, tA, t1, t2, t3⟩ := H
  refine Gd.go (fun _ w_k => XS.aloadN X0.here hx rfl (hb hby d19_0) rfl rfl w_k) ?_
  show Gd _ _ _ _ (s₁.setTop (mkF m 1 #[.val (.ref t)] [(.ref t)]))
  obtain ⟨T1, X1, e1, st1⟩ := getF X0 hx hZ hown (host := "") (Or.inl (hw _ (List.mem_of_getElem? (i := 54) rfl))) Via.refl e0 tV (g := (mkF m 1 #[.val (.ref t)] [(.ref t)])) rfl rfl (hb hby d19_1)
  refine Gd.go (fun _ w_k => st1 _ w_k) ?_
  show Gd _ _ _ _ (T1.setTop (mkF m 4 #[.val (.ref t)] [(.ref V)]))
  refine own_retA X1 hx hret hlk rfl (hb hby d19_4) ?_ (by decide) (by decide)
  exact ⟨rfl, e1, rfl⟩
theorem own_pn4 : plainFor (⟨"java/lang/AbstractStringBuilder", "isLatin1", "()Z"⟩ : MethodName) = true := by first | exact plainFor_of_name (by first | (simp [plainName, overriddenIn, x]; done) | decide +kernel) | decide +kernel
theorem ef_17 (m : MethodId) (q0 : Addr) : entryFrame m #[(.ref q0)] 1 = mkF m 0 #[.val (.ref q0)] [] := by first | (simp [entryFrame, mkF, argsToLocals, Value.category, maxLocals]; done) | rfl
theorem d17_0 : decode jdk_68_method_68_code 0 = .ok (.getstatic 18, 3) := by decide +kernel
theorem d17_3 : decode jdk_68_method_68_code 3 = .ok (.ifCond .eq 14, 3) := by decide +kernel
theorem d17_6 : decode jdk_68_method_68_code 6 = .ok (.aload_n 0, 1) := by decide +kernel
theorem d17_7 : decode jdk_68_method_68_code 7 = .ok (.getfield 22, 3) := by decide +kernel
theorem d17_10 : decode jdk_68_method_68_code 10 = .ok (.ifCond .ne 7, 3) := by decide +kernel
theorem d17_13 : decode jdk_68_method_68_code 13 = .ok (.iconst 1, 1) := by decide +kernel
theorem d17_14 : decode jdk_68_method_68_code 14 = .ok (.goto 4, 3) := by decide +kernel
theorem d17_18 : decode jdk_68_method_68_code 18 = .ok (.ireturn, 1) := by decide +kernel
set_option maxRecDepth 65536 in
set_option maxHeartbeats 40000000 in
theorem own_c17 (l : Launch) (Z : State) (a0 : Array Value) (hw : ∀ d ∈ tables_1, d.before a0 Z = true) (cs : Int32) (fv gv : Value) (d1 d2 : Addr) (G : own_G Z cs fv gv d1 d2) (h0 : Heap) (n0 : Nat) (O0 : Old Z n0 h0) (b A : Addr) (cap cnt : Nat) (g : Nat → Nat) (S : own_SB Z h0 b A n0 cap cnt g) :
    Con l Z (⟨"java/lang/AbstractStringBuilder", "isLatin1", "()Z"⟩ : MethodName) jdk_68_method_68_code 1 (some .boolean) [] ({ frames := 0, cells := 0, slots := 0, locals := 0 } : Room) 0 0 #[(.ref b)] h0 (fun r h L => r = some (.int (1 : Int32)) ∧ h = h0 ∧ L = []) := by
  refine Con.of own_pn4 ?_
  intro pg ev s_ m bl mt cd s₁ hx hby hml hown hnm hret hlk hZ X0 e0
  rw [ef_17]
  show Gd _ _ _ _ (s₁.setTop (mkF m 0 #[.val (.ref b)] []))
  obtain ⟨bE, bV, bC, bN, bA, bX, sn1, sn2, sn3, sn4⟩ := S
  obtain ⟨T1, X1, e1, st1⟩ := getS2 X0 hx hZ hown (host := "") (Or.inl (hw _ (List.mem_of_getElem? (i := 82) rfl))) Via.refl e0 (G.2.1.ext O0.2) (g := (mkF m 0 #[.val (.ref b)] [])) rfl (hb hby d17_0)
  refine Gd.go (fun _ w_k => st1 _ w_k) ?_
  show Gd _ _ _ _ (T1.setTop (mkF m 3 #[.val (.ref b)] [(.int cs)]))
  refine Gd.go (fun _ w_k => XS.ifNo X1.here hx rfl (hb hby d17_3) rfl ((if0 _ _).trans (feq G.1).1) w_k) ?_
  show Gd _ _ _ _ (T1.setTop (mkF m 6 #[.val (.ref b)] []))
  refine Gd.go (fun _ w_k => XS.aloadN X1.here hx rfl (hb hby d17_6) rfl rfl w_k) ?_
  show Gd _ _ _ _ (T1.setTop (mkF m 7 #[.val (.ref b)] [(.ref b)]))
  obtain ⟨T2, X2, e2, st2⟩ := getF X1 hx hZ hown (host := "") (Or.inl (hw _ (List.mem_of_getElem? (i := 85) rfl))) Via.refl e1 bC (g := (mkF m 7 #[.val (.ref b)] [(.ref b)])) rfl rfl (hb hby d17_7)
  refine Gd.go (fun _ w_k => st2 _ w_k) ?_
  show Gd _ _ _ _ (T2.setTop (mkF m 10 #[.val (.ref b)] [(.int (0 : Int32))]))
  refine Gd.go (fun _ w_k => XS.ifNo X2.here hx rfl (hb hby d17_10) rfl ((if0 _ _).trans (teq (by decide)).2) w_k) ?_
  show Gd _ _ _ _ (T2.setTop (mkF m 13 #[.val (.ref b)] []))
  refine Gd.go (fun _ w_k => XS.iconst X2.here hx rfl (hb hby d17_13) w_k) ?_
  show Gd _ _ _ _ (T2.setTop (mkF m 14 #[.val (.ref b)] [(.int (1 : Int32))]))
  refine Gd.go (fun _ w_k => XS.goto X2.here hx rfl (pc0 := 14) (pc' := 18) rfl (hb hby d17_14) (by decide) (by decide) w_k) ?_
  show Gd _ _ _ _ (T2.setTop (mkF m 18 #[.val (.ref b)] [(.int (1 : Int32))]))
  refine own_retN (t := .boolean) X2 hx hret hlk (by simp) (hb hby d17_18) ?_ (by decide) (by decide)
  exact ⟨rfl, e2, rfl⟩
theorem own_pn5 : plainFor (⟨"java/lang/AbstractStringBuilder", "getValue", "()[B"⟩ : MethodName) = true := by first | exact plainFor_of_name (by first | (simp [plainName, overriddenIn, x]; done) | decide +kernel) | decide +kernel
theorem ef_23 (m : MethodId) (q0 : Addr) : entryFrame m #[(.ref q0)] 1 = mkF m 0 #[.val (.ref q0)] [] := by first | (simp [entryFrame, mkF, argsToLocals, Value.category, maxLocals]; done) | rfl
theorem d23_0 : decode jdk_68_method_64_code 0 = .ok (.aload_n 0, 1) := by decide +kernel
theorem d23_1 : decode jdk_68_method_64_code 1 = .ok (.getfield 15, 3) := by decide +kernel
theorem d23_4 : decode jdk_68_method_64_code 4 = .ok (.areturn, 1) := by decide +kernel
set_option maxRecDepth 65536 in
set_option maxHeartbeats 40000000 in
theorem own_c23 (l : Launch) (Z : State) (a0 : Array Value) (hw : ∀ d ∈ tables_1, d.before a0 Z = true) (cs : Int32) (fv gv : Value) (d1 d2 : Addr) (G : own_G Z cs fv gv d1 d2) (h0 : Heap) (n0 : Nat) (O0 : Old Z n0 h0) (b A : Addr) (cap cnt : Nat) (g : Nat → Nat) (S : own_SB Z h0 b A n0 cap cnt g) :
    Con l Z (⟨"java/lang/AbstractStringBuilder", "getValue", "()[B"⟩ : MethodName) jdk_68_method_64_code 1 (some (.array .byte)) [] ({ frames := 0, cells := 0, slots := 0, locals := 0 } : Room) 0 0 #[(.ref b)] h0 (fun r h L => r = some (.ref A) ∧ h = h0 ∧ L = []) := by
  refine Con.of own_pn5 ?_
  intro pg ev s_ m bl mt cd s₁ hx hby hml hown hnm hret hlk hZ X0 e0
  rw [ef_23]
  show Gd _ _ _ _ (s₁.setTop (mkF m 0 #[.val (.ref b)] []))
  obtain ⟨bE, bV, bC, bN, bA, bX, sn1, sn2, sn3, sn4⟩ := S
  refine Gd.go (fun _ w_k => XS.aloadN X0.here hx rfl (hb hby d23_0) rfl rfl w_k) ?_
  show Gd _ _ _ _ (s₁.setTop (mkF m 1 #[.val (.ref b)] [(.ref b)]))
  obtain ⟨T1, X1, e1, st1⟩ := getF X0 hx hZ hown (host := "") (Or.inl (hw _ (List.mem_of_getElem? (i := 83) rfl))) Via.refl e0 bV (g := (mkF m 1 #[.val (.ref b)] [(.ref b)])) rfl rfl (hb hby d23_1)
  refine Gd.go (fun _ w_k => st1 _ w_k) ?_
  show Gd _ _ _ _ (T1.setTop (mkF m 4 #[.val (.ref b)] [(.ref A)]))
  refine own_retA X1 hx hret hlk rfl (hb hby d23_4) ?_ (by decide) (by decide)
  exact ⟨rfl, e1, rfl⟩
theorem own_pn6 : plainFor (⟨"java/lang/AbstractStringBuilder", "length", "()I"⟩ : MethodName) = true := by first | exact plainFor_of_name (by first | (simp [plainName, overriddenIn, x]; done) | decide +kernel) | decide +kernel
theorem ef_25 (m : MethodId) (q0 : Addr) : entryFrame m #[(.ref q0)] 1 = mkF m 0 #[.val (.ref q0)] [] := by first | (simp [entryFrame, mkF, argsToLocals, Value.category, maxLocals]; done) | rfl
theorem d25_0 : decode jdk_68_method_6_code 0 = .ok (.aload_n 0, 1) := by decide +kernel
theorem d25_1 : decode jdk_68_method_6_code 1 = .ok (.getfield 79, 3) := by decide +kernel
theorem d25_4 : decode jdk_68_method_6_code 4 = .ok (.ireturn, 1) := by decide +kernel
set_option maxRecDepth 65536 in
set_option maxHeartbeats 40000000 in
theorem own_c25 (l : Launch) (Z : State) (a0 : Array Value) (hw : ∀ d ∈ tables_1, d.before a0 Z = true) (cs : Int32) (fv gv : Value) (d1 d2 : Addr) (G : own_G Z cs fv gv d1 d2) (h0 : Heap) (n0 : Nat) (O0 : Old Z n0 h0) (b A : Addr) (cap cnt : Nat) (g : Nat → Nat) (S : own_SB Z h0 b A n0 cap cnt g) :
    Con l Z (⟨"java/lang/AbstractStringBuilder", "length", "()I"⟩ : MethodName) jdk_68_method_6_code 1 (some .int) [] ({ frames := 0, cells := 0, slots := 0, locals := 0 } : Room) 0 0 #[(.ref b)] h0 (fun r h L => r = some (.int (Int32.ofNat cnt)) ∧ h = h0 ∧ L = []) := by
  refine Con.of own_pn6 ?_
  intro pg ev s_ m bl mt cd s₁ hx hby hml hown hnm hret hlk hZ X0 e0
  rw [ef_25]
  show Gd _ _ _ _ (s₁.setTop (mkF m 0 #[.val (.ref b)] []))
  obtain ⟨bE, bV, bC, bN, bA, bX, sn1, sn2, sn3, sn4⟩ := S
  refine Gd.go (fun _ w_k => XS.aloadN X0.here hx rfl (hb hby d25_0) rfl rfl w_k) ?_
  show Gd _ _ _ _ (s₁.setTop (mkF m 1 #[.val (.ref b)] [(.ref b)]))
  obtain ⟨T1, X1, e1, st1⟩ := getF X0 hx hZ hown (host := "") (Or.inl (hw _ (List.mem_of_getElem? (i := 110) rfl))) Via.refl e0 bN (g := (mkF m 1 #[.val (.ref b)] [(.ref b)])) rfl rfl (hb hby d25_1)
  refine Gd.go (fun _ w_k => st1 _ w_k) ?_
  show Gd _ _ _ _ (T1.setTop (mkF m 4 #[.val (.ref b)] [(.int (Int32.ofNat cnt))]))
  refine own_retI X1 hx hret hlk (hb hby d25_4) ?_ (by decide) (by decide)
  exact ⟨rfl, e1, rfl⟩
theorem own_pn7 : plainFor (⟨"java/lang/StringBuilder", "length", "()I"⟩ : MethodName) = true := by first | exact plainFor_of_name (by first | (simp [plainName, overriddenIn, x]; done) | decide +kernel) | decide +kernel
theorem ef_24 (m : MethodId) (q0 : Addr) : entryFrame m #[(.ref q0)] 1 = mkF m 0 #[.val (.ref q0)] [] := by first | (simp [entryFrame, mkF, argsToLocals, Value.category, maxLocals]; done) | rfl
theorem d24_0 : decode jdk_67_method_93_code 0 = .ok (.aload_n 0, 1) := by decide +kernel
theorem own_pd1 : parseMethodDescriptor "()I" = some ⟨[], some .int⟩ := by decide +kernel
theorem d24_1 : decode jdk_67_method_93_code 1 = .ok (.invokespecial 343, 3) := by decide +kernel
theorem d24_4 : decode jdk_67_method_93_code 4 = .ok (.ireturn, 1) := by decide +kernel
set_option maxRecDepth 65536 in
set_option maxHeartbeats 40000000 in
theorem own_c24 (l : Launch) (Z : State) (a0 : Array Value) (hw : ∀ d ∈ tables_1, d.before a0 Z = true) (cs : Int32) (fv gv : Value) (d1 d2 : Addr) (G : own_G Z cs fv gv d1 d2) (h0 : Heap) (n0 : Nat) (O0 : Old Z n0 h0) (b A : Addr) (cap cnt : Nat) (g : Nat → Nat) (S : own_SB Z h0 b A n0 cap cnt g) :
    Con l Z (⟨"java/lang/StringBuilder", "length", "()I"⟩ : MethodName) jdk_67_method_93_code 1 (some .int) [] ({ frames := 1, cells := 0, slots := 0, locals := 12 } : Room) 0 0 #[(.ref b)] h0 (fun r h L => r = some (.int (Int32.ofNat cnt)) ∧ h = h0 ∧ L = []) := by
  refine Con.of own_pn7 ?_
  intro pg ev s_ m bl mt cd s₁ hx hby hml hown hnm hret hlk hZ X0 e0
  rw [ef_24]
  show Gd _ _ _ _ (s₁.setTop (mkF m 0 #[.val (.ref b)] []))
  have S' := S
  obtain ⟨bE, bV, bC, bN, bA, bX, sn1, sn2, sn3, sn4⟩ := S'
  refine Gd.go (fun _ w_k => XS.aloadN X0.here hx rfl (hb hby d24_0) rfl rfl w_k) ?_
  show Gd _ _ _ _ (s₁.setTop (mkF m 1 #[.val (.ref b)] [(.ref b)]))
  obtain ⟨T1, X1, e1, st1⟩ := own_pureOf (own_callU X0 hx hZ (y := (⟨"java/lang/AbstractStringBuilder", "length", "()I"⟩ : MethodName)) (y' := (⟨"java/lang/AbstractStringBuilder", "ensureCapacityInternal", "(I)V"⟩ : MethodName)) hown (by decide) (hw _ (List.mem_of_getElem? (i := 165) rfl)) (hw _ (List.mem_of_getElem? (i := 115) rfl)) rfl (hw _ (List.mem_of_getElem? (i := 94) rfl)) (hw _ (List.mem_of_getElem? (i := 161) rfl)) (hw _ (List.mem_of_getElem? (i := 79) rfl)) (hw _ (List.mem_of_getElem? (i := 166) rfl)) (by decide) bE (W := 0) (own_c25 l Z a0 hw cs fv gv d1 d2 G h0 n0 O0 b A cap cnt g S) rfl rfl e0 (by decide) (by decide) (g := (mkF m 1 #[.val (.ref b)] [(.ref b)])) rfl (by rw [hml]; rfl) (argsL := []) (rest := []) (lenOf own_pd1 rfl) rfl (Nat.le_of_eq rfl) (hb hby d24_1) rfl (by decide) (by decide))
  refine Gd.go (fun _ w_k => st1 _ w_k) ?_
  show Gd _ _ _ _ (T1.setTop (mkF m 4 #[.val (.ref b)] [(.int (Int32.ofNat cnt))]))
  refine own_retI X1 hx hret hlk (hb hby d24_4) ?_ (by decide) (by decide)
  exact ⟨rfl, e1, rfl⟩
theorem own_pn8 : plainFor (⟨"java/lang/StringLatin1", "canEncode", "(C)Z"⟩ : MethodName) = true := by first | exact plainFor_of_name (by first | (simp [plainName, overriddenIn, x]; done) | decide +kernel) | decide +kernel
theorem ef_34 (m : MethodId) (q0 : Int32) : entryFrame m #[(.int q0)] 1 = mkF m 0 #[.val (.int q0)] [] := by first | (simp [entryFrame, mkF, argsToLocals, Value.category, maxLocals]; done) | rfl
theorem d34_0 : decode jdk_43_method_3_code 0 = .ok (.iload_n 0, 1) := by decide +kernel
theorem d34_1 : decode jdk_43_method_3_code 1 = .ok (.sipush 255, 3) := by decide +kernel
theorem d34_4 : decode jdk_43_method_3_code 4 = .ok (.if_icmp .gt 7, 3) := by decide +kernel
theorem d34_7 : decode jdk_43_method_3_code 7 = .ok (.iconst 1, 1) := by decide +kernel
theorem d34_8 : decode jdk_43_method_3_code 8 = .ok (.goto 4, 3) := by decide +kernel
theorem d34_12 : decode jdk_43_method_3_code 12 = .ok (.ireturn, 1) := by decide +kernel
set_option maxRecDepth 65536 in
set_option maxHeartbeats 40000000 in
theorem own_c34 (l : Launch) (Z : State) (a0 : Array Value) (hw : ∀ d ∈ tables_1, d.before a0 Z = true) (h0 : Heap) :
    Con l Z (⟨"java/lang/StringLatin1", "canEncode", "(C)Z"⟩ : MethodName) jdk_43_method_3_code 1 (some .boolean) [] ({ frames := 0, cells := 0, slots := 0, locals := 0 } : Room) 0 0 #[(.int (44 : Int32))] h0 (fun r h L => r = some (.int (1 : Int32)) ∧ h = h0 ∧ L = []) := by
  refine Con.of own_pn8 ?_
  intro pg ev s_ m bl mt cd s₁ hx hby hml hown hnm hret hlk hZ X0 e0
  rw [ef_34]
  show Gd _ _ _ _ (s₁.setTop (mkF m 0 #[.val (.int (44 : Int32))] []))
  refine Gd.go (fun _ w_k => XS.iloadN X0.here hx rfl (hb hby d34_0) rfl w_k) ?_
  show Gd _ _ _ _ (s₁.setTop (mkF m 1 #[.val (.int (44 : Int32))] [(.int (44 : Int32))]))
  refine Gd.go (fun _ w_k => XS.sipush X0.here hx rfl (hb hby d34_1) w_k) ?_
  show Gd _ _ _ _ (s₁.setTop (mkF m 4 #[.val (.int (44 : Int32))] [(.int (255 : Int32)), (.int (44 : Int32))]))
  refine Gd.go (fun _ w_k => XS.icmpNo X0.here hx rfl (hb hby d34_4) rfl (flt (by decide)).2.2.1 w_k) ?_
  show Gd _ _ _ _ (s₁.setTop (mkF m 7 #[.val (.int (44 : Int32))] []))
  refine Gd.go (fun _ w_k => XS.iconst X0.here hx rfl (hb hby d34_7) w_k) ?_
  show Gd _ _ _ _ (s₁.setTop (mkF m 8 #[.val (.int (44 : Int32))] [(.int (1 : Int32))]))
  refine Gd.go (fun _ w_k => XS.goto X0.here hx rfl (pc0 := 8) (pc' := 12) rfl (hb hby d34_8) (by decide) (by decide) w_k) ?_
  show Gd _ _ _ _ (s₁.setTop (mkF m 12 #[.val (.int (44 : Int32))] [(.int (1 : Int32))]))
  refine own_retN (t := .boolean) X0 hx hret hlk (by simp) (hb hby d34_12) ?_ (by decide) (by decide)
  exact ⟨rfl, e0, rfl⟩
theorem own_pn9 : plainFor (⟨"jdk/internal/util/Preconditions", "checkFromToIndex", "(IIILjava/util/function/BiFunction;)I"⟩ : MethodName) = true := by first | exact plainFor_of_name (by first | (simp [plainName, overriddenIn, x]; done) | decide +kernel) | decide +kernel
theorem ef_14 (m : MethodId) (q0 : Int32) (q1 : Int32) (q2 : Int32) (q3 : Value) (hcq3 : q3.category = 1) : entryFrame m #[(.int q0), (.int q1), (.int q2), q3] 4 = mkF m 0 #[.val (.int q0), .val (.int q1), .val (.int q2), .val q3] [] := by
  cases q3 <;> first | (simp [entryFrame, mkF, argsToLocals, Value.category, maxLocals]; done) | rfl | exact absurd hcq3 (by simp [Value.category])
theorem d14_0 : decode jdk_41_method_12_code 0 = .ok (.iload_n 0, 1) := by decide +kernel
theorem d14_1 : decode jdk_41_method_12_code 1 = .ok (.ifCond .lt 13, 3) := by decide +kernel
theorem d14_4 : decode jdk_41_method_12_code 4 = .ok (.iload_n 0, 1) := by decide +kernel
theorem d14_5 : decode jdk_41_method_12_code 5 = .ok (.iload_n 1, 1) := by decide +kernel
theorem d14_6 : decode jdk_41_method_12_code 6 = .ok (.if_icmp .gt 8, 3) := by decide +kernel
theorem d14_9 : decode jdk_41_method_12_code 9 = .ok (.iload_n 1, 1) := by decide +kernel
theorem d14_10 : decode jdk_41_method_12_code 10 = .ok (.iload_n 2, 1) := by decide +kernel
theorem d14_11 : decode jdk_41_method_12_code 11 = .ok (.if_icmp .le 11, 3) := by decide +kernel
theorem d14_22 : decode jdk_41_method_12_code 22 = .ok (.iload_n 0, 1) := by decide +kernel
theorem d14_23 : decode jdk_41_method_12_code 23 = .ok (.ireturn, 1) := by decide +kernel
set_option maxRecDepth 65536 in
set_option maxHeartbeats 40000000 in
theorem own_c14 (l : Launch) (Z : State) (a0 : Array Value) (hw : ∀ d ∈ tables_1, d.before a0 Z = true) (lo hi n : Nat) (v : Value) (hv : v.category = 1) (g1 : lo ≤ hi) (g2 : hi ≤ n) (g3 : n < 2 ^ 31) (h0 : Heap) :
    Con l Z (⟨"jdk/internal/util/Preconditions", "checkFromToIndex", "(IIILjava/util/function/BiFunction;)I"⟩ : MethodName) jdk_41_method_12_code 4 (some .int) [] ({ frames := 0, cells := 0, slots := 0, locals := 0 } : Room) 0 0 #[(.int (Int32.ofNat lo)), (.int (Int32.ofNat hi)), (.int (Int32.ofNat n)), v] h0 (fun r h L => r = some (.int (Int32.ofNat lo)) ∧ h = h0 ∧ L = []) := by
  refine Con.of own_pn9 ?_
  intro pg ev s_ m bl mt cd s₁ hx hby hml hown hnm hret hlk hZ X0 e0
  rw [ef_14 (hcq3 := hv)]
  show Gd _ _ _ _ (s₁.setTop (mkF m 0 #[.val (.int (Int32.ofNat lo)), .val (.int (Int32.ofNat hi)), .val (.int (Int32.ofNat n)), .val v] []))
  have z0 : (0 : Int32).toInt = 0 := rfl
  have ec1 := own_ofN (n := lo) (by omega)
  have ec2 := own_ofN (n := hi) (by omega)
  have ec3 := own_ofN (n := n) (by omega)
  refine Gd.go (fun _ w_k => XS.iloadN X0.here hx rfl (hb hby d14_0) rfl w_k) ?_
  show Gd _ _ _ _ (s₁.setTop (mkF m 1 #[.val (.int (Int32.ofNat lo)), .val (.int (Int32.ofNat hi)), .val (.int (Int32.ofNat n)), .val v] [(.int (Int32.ofNat lo))]))
  refine Gd.go (fun _ w_k => XS.ifNo X0.here hx rfl (hb hby d14_1) rfl ((if0 _ _).trans (flt (by rw [Int32.lt_iff_toInt_lt]; omega)).1) w_k) ?_
  show Gd _ _ _ _ (s₁.setTop (mkF m 4 #[.val (.int (Int32.ofNat lo)), .val (.int (Int32.ofNat hi)), .val (.int (Int32.ofNat n)), .val v] []))
  refine Gd.go (fun _ w_k => XS.iloadN X0.here hx rfl (hb hby d14_4) rfl w_k) ?_
  show Gd _ _ _ _ (s₁.setTop (mkF m 5 #[.val (.int (Int32.ofNat lo)), .val (.int (Int32.ofNat hi)), .val (.int (Int32.ofNat n)), .val v] [(.int (Int32.ofNat lo))]))
  refine Gd.go (fun _ w_k => XS.iloadN X0.here hx rfl (hb hby d14_5) rfl w_k) ?_
  show Gd _ _ _ _ (s₁.setTop (mkF m 6 #[.val (.int (Int32.ofNat lo)), .val (.int (Int32.ofNat hi)), .val (.int (Int32.ofNat n)), .val v] [(.int (Int32.ofNat hi)), (.int (Int32.ofNat lo))]))
  refine Gd.go (fun _ w_k => XS.icmpNo X0.here hx rfl (hb hby d14_6) rfl (flt (by rw [Int32.lt_iff_toInt_lt]; omega)).2.2.1 w_k) ?_
  show Gd _ _ _ _ (s₁.setTop (mkF m 9 #[.val (.int (Int32.ofNat lo)), .val (.int (Int32.ofNat hi)), .val (.int (Int32.ofNat n)), .val v] []))
  refine Gd.go (fun _ w_k => XS.iloadN X0.here hx rfl (hb hby d14_9) rfl w_k) ?_
  show Gd _ _ _ _ (s₁.setTop (mkF m 10 #[.val (.int (Int32.ofNat lo)), .val (.int (Int32.ofNat hi)), .val (.int (Int32.ofNat n)), .val v] [(.int (Int32.ofNat hi))]))
  refine Gd.go (fun _ w_k => XS.iloadN X0.here hx rfl (hb hby d14_10) rfl w_k) ?_
  show Gd _ _ _ _ (s₁.setTop (mkF m 11 #[.val (.int (Int32.ofNat lo)), .val (.int (Int32.ofNat hi)), .val (.int (Int32.ofNat n)), .val v] [(.int (Int32.ofNat n)), (.int (Int32.ofNat hi))]))
  refine Gd.go (fun _ w_k => XS.icmpYes X0.here hx rfl (pc0 := 11) (pc' := 22) rfl (hb hby d14_11) rfl (flt (by rw [Int32.lt_iff_toInt_lt]; omega)).2.2.2 (by decide) (by decide) w_k) ?_
  show Gd _ _ _ _ (s₁.setTop (mkF m 22 #[.val (.int (Int32.ofNat lo)), .val (.int (Int32.ofNat hi)), .val (.int (Int32.ofNat n)), .val v] []))
  refine Gd.go (fun _ w_k => XS.iloadN X0.here hx rfl (hb hby d14_22) rfl w_k) ?_
  show Gd _ _ _ _ (s₁.setTop (mkF m 23 #[.val (.int (Int32.ofNat lo)), .val (.int (Int32.ofNat hi)), .val (.int (Int32.ofNat n)), .val v] [(.int (Int32.ofNat lo))]))
  refine own_retI X0 hx hret hlk (hb hby d14_23) ?_ (by decide) (by decide)
  exact ⟨rfl, e0, rfl⟩
theorem own_pn10 : plainFor (⟨"jdk/internal/util/Preconditions", "checkIndex", "(IILjava/util/function/BiFunction;)I"⟩ : MethodName) = true := by first | exact plainFor_of_name (by first | (simp [plainName, overriddenIn, x]; done) | decide +kernel) | decide +kernel
theorem ef_31 (m : MethodId) (q0 : Int32) (q1 : Int32) (q2 : Value) (hcq2 : q2.category = 1) : entryFrame m #[(.int q0), (.int q1), q2] 3 = mkF m 0 #[.val (.int q0), .val (.int q1), .val q2] [] := by
  cases q2 <;> first | (simp [entryFrame, mkF, argsToLocals, Value.category, maxLocals]; done) | rfl | exact absurd hcq2 (by simp [Value.category])
theorem d31_0 : decode jdk_41_method_11_code 0 = .ok (.iload_n 0, 1) := by decide +kernel
theorem d31_1 : decode jdk_41_method_11_code 1 = .ok (.ifCond .lt 8, 3) := by decide +kernel
theorem d31_4 : decode jdk_41_method_11_code 4 = .ok (.iload_n 0, 1) := by decide +kernel
theorem d31_5 : decode jdk_41_method_11_code 5 = .ok (.iload_n 1, 1) := by decide +kernel
theorem d31_6 : decode jdk_41_method_11_code 6 = .ok (.if_icmp .lt 10, 3) := by decide +kernel
theorem d31_16 : decode jdk_41_method_11_code 16 = .ok (.iload_n 0, 1) := by decide +kernel
theorem d31_17 : decode jdk_41_method_11_code 17 = .ok (.ireturn, 1) := by decide +kernel
set_option maxRecDepth 65536 in
set_option maxHeartbeats 40000000 in
theorem own_c31 (l : Launch) (Z : State) (a0 : Array Value) (hw : ∀ d ∈ tables_1, d.before a0 Z = true) (i n : Nat) (v : Value) (hv : v.category = 1) (g1 : i < n) (g3 : n < 2 ^ 31) (h0 : Heap) :
    Con l Z (⟨"jdk/internal/util/Preconditions", "checkIndex", "(IILjava/util/function/BiFunction;)I"⟩ : MethodName) jdk_41_method_11_code 3 (some .int) [] ({ frames := 0, cells := 0, slots := 0, locals := 0 } : Room) 0 0 #[(.int (Int32.ofNat i)), (.int (Int32.ofNat n)), v] h0 (fun r h L => r = some (.int (Int32.ofNat i)) ∧ h = h0 ∧ L = []) := by
  refine Con.of own_pn10 ?_
  intro pg ev s_ m bl mt cd s₁ hx hby hml hown hnm hret hlk hZ X0 e0
  rw [ef_31 (hcq2 := hv)]
  show Gd _ _ _ _ (s₁.setTop (mkF m 0 #[.val (.int (Int32.ofNat i)), .val (.int (Int32.ofNat n)), .val v] []))
  have z0 : (0 : Int32).toInt = 0 := rfl
  have ec1 := own_ofN (n := i) (by omega)
  have ec3 := own_ofN (n := n) (by omega)
  refine Gd.go (fun _ w_k => XS.iloadN X0.here hx rfl (hb hby d31_0) rfl w_k) ?_
  show Gd _ _ _ _ (s₁.setTop (mkF m 1 #[.val (.int (Int32.ofNat i)), .val (.int (Int32.ofNat n)), .val v] [(.int (Int32.ofNat i))]))
  refine Gd.go (fun _ w_k => XS.ifNo X0.here hx rfl (hb hby d31_1) rfl ((if0 _ _).trans (flt (by rw [Int32.lt_iff_toInt_lt]; omega)).1) w_k) ?_
  show Gd _ _ _ _ (s₁.setTop (mkF m 4 #[.val (.int (Int32.ofNat i)), .val (.int (Int32.ofNat n)), .val v] []))
  refine Gd.go (fun _ w_k => XS.iloadN X0.here hx rfl (hb hby d31_4) rfl w_k) ?_
  show Gd _ _ _ _ (s₁.setTop (mkF m 5 #[.val (.int (Int32.ofNat i)), .val (.int (Int32.ofNat n)), .val v] [(.int (Int32.ofNat i))]))
  refine Gd.go (fun _ w_k => XS.iloadN X0.here hx rfl (hb hby d31_5) rfl w_k) ?_
  show Gd _ _ _ _ (s₁.setTop (mkF m 6 #[.val (.int (Int32.ofNat i)), .val (.int (Int32.ofNat n)), .val v] [(.int (Int32.ofNat n)), (.int (Int32.ofNat i))]))
  refine Gd.go (fun _ w_k => XS.icmpYes X0.here hx rfl (pc0 := 6) (pc' := 16) rfl (hb hby d31_6) rfl (tlt (by rw [Int32.lt_iff_toInt_lt]; omega)).1 (by decide) (by decide) w_k) ?_
  show Gd _ _ _ _ (s₁.setTop (mkF m 16 #[.val (.int (Int32.ofNat i)), .val (.int (Int32.ofNat n)), .val v] []))
  refine Gd.go (fun _ w_k => XS.iloadN X0.here hx rfl (hb hby d31_16) rfl w_k) ?_
  show Gd _ _ _ _ (s₁.setTop (mkF m 17 #[.val (.int (Int32.ofNat i)), .val (.int (Int32.ofNat n)), .val v] [(.int (Int32.ofNat i))]))
  refine own_retI X0 hx hret hlk (hb hby d31_17) ?_ (by decide) (by decide)
  exact ⟨rfl, e0, rfl⟩
theorem own_pn11 : plainFor (⟨"java/lang/String", "checkIndex", "(II)V"⟩ : MethodName) = true := by first | exact plainFor_of_name (by first | (simp [plainName, overriddenIn, x]; done) | decide +kernel) | decide +kernel
theorem ef_30 (m : MethodId) (q0 : Int32) (q1 : Int32) : entryFrame m #[(.int q0), (.int q1)] 2 = mkF m 0 #[.val (.int q0), .val (.int q1)] [] := by first | (simp [entryFrame, mkF, argsToLocals, Value.category, maxLocals]; done) | rfl
theorem d30_0 : decode jdk_42_method_155_code 0 = .ok (.iload_n 0, 1) := by decide +kernel
theorem d30_1 : decode jdk_42_method_155_code 1 = .ok (.iload_n 1, 1) := by decide +kernel
theorem d30_2 : decode jdk_42_method_155_code 2 = .ok (.getstatic 1053, 3) := by decide +kernel
theorem own_pd2 : parseMethodDescriptor "(IILjava/util/function/BiFunction;)I" = some ⟨[.int, .int, (.object "java/util/function/BiFunction")], some .int⟩ := by decide +kernel
theorem d30_5 : decode jdk_42_method_155_code 5 = .ok (.invokestatic 1059, 3) := by decide +kernel
theorem d30_8 : decode jdk_42_method_155_code 8 = .ok (.pop, 1) := by decide +kernel
theorem d30_9 : decode jdk_42_method_155_code 9 = .ok (.return_, 1) := by decide +kernel
set_option maxRecDepth 65536 in
set_option maxHeartbeats 40000000 in
theorem own_c30 (l : Launch) (Z : State) (a0 : Array Value) (hw : ∀ d ∈ tables_1, d.before a0 Z = true) (cs : Int32) (fv gv : Value) (d1 d2 : Addr) (G : own_G Z cs fv gv d1 d2) (h0 : Heap) (n0 : Nat) (O0 : Old Z n0 h0) (i n : Nat) (g1 : i < n) (g3 : n < 2 ^ 31) :
    Con l Z (⟨"java/lang/String", "checkIndex", "(II)V"⟩ : MethodName) jdk_42_method_155_code 2 none [] ({ frames := 1, cells := 0, slots := 0, locals := 14 } : Room) 0 0 #[(.int (Int32.ofNat i)), (.int (Int32.ofNat n))] h0 (fun r h L => r = none ∧ h = h0 ∧ L = []) := by
  refine Con.of own_pn11 ?_
  intro pg ev s_ m bl mt cd s₁ hx hby hml hown hnm hret hlk hZ X0 e0
  rw [ef_30]
  show Gd _ _ _ _ (s₁.setTop (mkF m 0 #[.val (.int (Int32.ofNat i)), .val (.int (Int32.ofNat n))] []))
  refine Gd.go (fun _ w_k => XS.iloadN X0.here hx rfl (hb hby d30_0) rfl w_k) ?_
  show Gd _ _ _ _ (s₁.setTop (mkF m 1 #[.val (.int (Int32.ofNat i)), .val (.int (Int32.ofNat n))] [(.int (Int32.ofNat i))]))
  refine Gd.go (fun _ w_k => XS.iloadN X0.here hx rfl (hb hby d30_1) rfl w_k) ?_
  show Gd _ _ _ _ (s₁.setTop (mkF m 2 #[.val (.int (Int32.ofNat i)), .val (.int (Int32.ofNat n))] [(.int (Int32.ofNat n)), (.int (Int32.ofNat i))]))
  obtain ⟨T1, X1, e1, st1⟩ := getS2 X0 hx hZ hown (host := "") (Or.inl (hw _ (List.mem_of_getElem? (i := 198) rfl))) Via.refl e0 (G.2.2.2.2.1.ext O0.2) (g := (mkF m 2 #[.val (.int (Int32.ofNat i)), .val (.int (Int32.ofNat n))] [(.int (Int32.ofNat n)), (.int (Int32.ofNat i))])) rfl (hb hby d30_2)
  refine Gd.go (fun _ w_k => st1 _ w_k) ?_
  show Gd _ _ _ _ (T1.setTop (mkF m 5 #[.val (.int (Int32.ofNat i)), .val (.int (Int32.ofNat n))] [gv, (.int (Int32.ofNat n)), (.int (Int32.ofNat i))]))
  obtain ⟨T2, X2, e2, st2⟩ := own_callSP X1 hx hZ (y := (⟨"jdk/internal/util/Preconditions", "checkIndex", "(IILjava/util/function/BiFunction;)I"⟩ : MethodName)) hown (hw _ (List.mem_of_getElem? (i := 199) rfl)) (hw _ (List.mem_of_getElem? (i := 200) rfl)) (hw _ (List.mem_of_getElem? (i := 105) rfl)) (hw _ (List.mem_of_getElem? (i := 201) rfl)) (by decide) (W := 0) (own_c31 l Z a0 hw i n gv G.2.2.2.2.2.1 g1 g3 h0) rfl rfl e1 (by decide) (by decide) (g := (mkF m 5 #[.val (.int (Int32.ofNat i)), .val (.int (Int32.ofNat n))] [gv, (.int (Int32.ofNat n)), (.int (Int32.ofNat i))])) rfl (by rw [hml]; rfl) (argsL := [(.int (Int32.ofNat i)), (.int (Int32.ofNat n)), gv]) (rest := []) (lenOf own_pd2 rfl) rfl (Nat.le_of_eq rfl) (hb hby d30_5) rfl
  refine Gd.go (fun _ w_k => st2 _ w_k) ?_
  show Gd _ _ _ _ (T2.setTop (mkF m 8 #[.val (.int (Int32.ofNat i)), .val (.int (Int32.ofNat n))] [(.int (Int32.ofNat i))]))
  refine Gd.go (fun _ w_k => XS.pop X2.here hx rfl (hb hby d30_8) rfl rfl w_k) ?_
  show Gd _ _ _ _ (T2.setTop (mkF m 9 #[.val (.int (Int32.ofNat i)), .val (.int (Int32.ofNat n))] []))
  refine own_retV X2 hx hret hlk (hb hby d30_9) ?_ (by decide) (by decide)
  exact ⟨rfl, e2, rfl⟩
theorem own_pn12 : plainFor (⟨"java/lang/StringLatin1", "charAt", "([BI)C"⟩ : MethodName) = true := by first | exact plainFor_of_name (by first | (simp [plainName, overriddenIn, x]; done) | decide +kernel) | decide +kernel
theorem ef_29 (m : MethodId) (q0 : Addr) (q1 : Int32) : entryFrame m #[(.ref q0), (.int q1)] 2 = mkF m 0 #[.val (.ref q0), .val (.int q1)] [] := by first | (simp [entryFrame, mkF, argsToLocals, Value.category, maxLocals]; done) | rfl
theorem d29_0 : decode jdk_43_method_2_code 0 = .ok (.iload_n 1, 1) := by decide +kernel
theorem d29_1 : decode jdk_43_method_2_code 1 = .ok (.aload_n 0, 1) := by decide +kernel
theorem d29_2 : decode jdk_43_method_2_code 2 = .ok (.arraylength, 1) := by decide +kernel
theorem own_pd3 : parseMethodDescriptor "(II)V" = some ⟨[.int, .int], none⟩ := by decide +kernel
theorem d29_3 : decode jdk_43_method_2_code 3 = .ok (.invokestatic 9, 3) := by decide +kernel
theorem d29_6 : decode jdk_43_method_2_code 6 = .ok (.aload_n 0, 1) := by decide +kernel
theorem d29_7 : decode jdk_43_method_2_code 7 = .ok (.iload_n 1, 1) := by decide +kernel
theorem d29_8 : decode jdk_43_method_2_code 8 = .ok (.baload, 1) := by decide +kernel
theorem d29_9 : decode jdk_43_method_2_code 9 = .ok (.sipush 255, 3) := by decide +kernel
theorem d29_12 : decode jdk_43_method_2_code 12 = .ok (.iand, 1) := by decide +kernel
theorem d29_13 : decode jdk_43_method_2_code 13 = .ok (.i2c, 1) := by decide +kernel
theorem d29_14 : decode jdk_43_method_2_code 14 = .ok (.ireturn, 1) := by decide +kernel
set_option maxRecDepth 65536 in
set_option maxHeartbeats 40000000 in
theorem own_c29 (l : Launch) (Z : State) (a0 : Array Value) (hw : ∀ d ∈ tables_1, d.before a0 Z = true) (cs : Int32) (fv gv : Value) (d1 d2 : Addr) (G : own_G Z cs fv gv d1 d2) (h0 : Heap) (n0 : Nat) (O0 : Old Z n0 h0) (V : Addr) (n : Nat) (f : Nat → Nat) (A0 : ArF Z h0 V .byte n (own_iv f)) (i : Nat) (g1 : i < n) (g2 : f i < 128) :
    Con l Z (⟨"java/lang/StringLatin1", "charAt", "([BI)C"⟩ : MethodName) jdk_43_method_2_code 2 (some .char) [] ({ frames := 2, cells := 0, slots := 0, locals := 27 } : Room) 0 0 #[(.ref V), (.int (Int32.ofNat i))] h0 (fun r h L => r = some (.int (Int32.ofNat (f i))) ∧ h = h0 ∧ L = []) := by
  refine Con.of own_pn12 ?_
  intro pg ev s_ m bl mt cd s₁ hx hby hml hown hnm hret hlk hZ X0 e0
  rw [ef_29]
  show Gd _ _ _ _ (s₁.setTop (mkF m 0 #[.val (.ref V), .val (.int (Int32.ofNat i))] []))
  have n31 := A0.n31
  refine Gd.go (fun _ w_k => XS.iloadN X0.here hx rfl (hb hby d29_0) rfl w_k) ?_
  show Gd _ _ _ _ (s₁.setTop (mkF m 1 #[.val (.ref V), .val (.int (Int32.ofNat i))] [(.int (Int32.ofNat i))]))
  refine Gd.go (fun _ w_k => XS.aloadN X0.here hx rfl (hb hby d29_1) rfl rfl w_k) ?_
  show Gd _ _ _ _ (s₁.setTop (mkF m 2 #[.val (.ref V), .val (.int (Int32.ofNat i))] [(.ref V), (.int (Int32.ofNat i))]))
  refine Gd.go (fun _ w_k => own_len X0 hx hZ e0 A0 (z := (Int32.ofNat n)) rfl (g := (mkF m 2 #[.val (.ref V), .val (.int (Int32.ofNat i))] [(.ref V), (.int (Int32.ofNat i))])) rfl rfl (hb hby d29_2) _ w_k) ?_
  show Gd _ _ _ _ (s₁.setTop (mkF m 3 #[.val (.ref V), .val (.int (Int32.ofNat i))] [(.int (Int32.ofNat n)), (.int (Int32.ofNat i))]))
  obtain ⟨T1, X1, e1, st1⟩ := own_callSP X0 hx hZ (y := (⟨"java/lang/String", "checkIndex", "(II)V"⟩ : MethodName)) hown (hw _ (List.mem_of_getElem? (i := 195) rfl)) (hw _ (List.mem_of_getElem? (i := 196) rfl)) (hw _ (List.mem_of_getElem? (i := 37) rfl)) (hw _ (List.mem_of_getElem? (i := 197) rfl)) (by decide) (W := 0) (own_c30 l Z a0 hw cs fv gv d1 d2 G h0 n0 O0 i n g1 n31) rfl rfl e0 (by decide) (by decide) (g := (mkF m 3 #[.val (.ref V), .val (.int (Int32.ofNat i))] [(.int (Int32.ofNat n)), (.int (Int32.ofNat i))])) rfl (by rw [hml]; rfl) (argsL := [(.int (Int32.ofNat i)), (.int (Int32.ofNat n))]) (rest := []) (lenOf own_pd3 rfl) rfl (Nat.le_of_eq rfl) (hb hby d29_3) rfl
  refine Gd.go (fun _ w_k => st1 _ w_k) ?_
  show Gd _ _ _ _ (T1.setTop (mkF m 6 #[.val (.ref V), .val (.int (Int32.ofNat i))] []))
  refine Gd.go (fun _ w_k => XS.aloadN X1.here hx rfl (hb hby d29_6) rfl rfl w_k) ?_
  show Gd _ _ _ _ (T1.setTop (mkF m 7 #[.val (.ref V), .val (.int (Int32.ofNat i))] [(.ref V)]))
  refine Gd.go (fun _ w_k => XS.iloadN X1.here hx rfl (hb hby d29_7) rfl w_k) ?_
  show Gd _ _ _ _ (T1.setTop (mkF m 8 #[.val (.ref V), .val (.int (Int32.ofNat i))] [(.int (Int32.ofNat i)), (.ref V)]))
  refine Gd.go (fun _ w_k => own_ldB X1 hx hZ e1 A0 (j := (Int32.ofNat i)) (by rw [own_ofN (by omega)]; omega) (by rw [own_ofN (by omega)]; omega) (v := (.int (Int32.ofNat (f i)))) (by rw [own_ofC (by omega)]; rfl) (g := (mkF m 8 #[.val (.ref V), .val (.int (Int32.ofNat i))] [(.int (Int32.ofNat i)), (.ref V)])) rfl rfl (hb hby d29_8) _ w_k) ?_
  show Gd _ _ _ _ (T1.setTop (mkF m 9 #[.val (.ref V), .val (.int (Int32.ofNat i))] [(.int (Int32.ofNat (f i)))]))
  refine Gd.go (fun _ w_k => XS.sipush X1.here hx rfl (hb hby d29_9) w_k) ?_
  show Gd _ _ _ _ (T1.setTop (mkF m 12 #[.val (.ref V), .val (.int (Int32.ofNat i))] [(.int (255 : Int32)), (.int (Int32.ofNat (f i)))]))
  refine Gd.go (fun _ w_k => XS.iand X1.here hx rfl (hb hby d29_12) rfl w_k) ?_
  show Gd _ _ _ _ (T1.setTop (mkF m 13 #[.val (.ref V), .val (.int (Int32.ofNat i))] [(.int ((Int32.ofNat (f i)) &&& (255 : Int32)))]))
  refine Gd.go (fun _ w_k => XS.i2c X1.here hx rfl (hb hby d29_13) rfl w_k) ?_
  show Gd _ _ _ _ (T1.setTop (mkF m 14 #[.val (.ref V), .val (.int (Int32.ofNat i))] [(.int (((Int32.ofNat (f i)) &&& (255 : Int32)).toUInt32.toUInt16.toUInt32.toInt32))]))
  refine own_retN (t := .char) X1 hx hret hlk (by simp) (hb hby d29_14) ?_ (by decide) (by decide)
  exact ⟨congrArg (fun q => some (Value.int q)) (by rw [(own_fit128 ⟨f i, g2⟩).2.2.1]; exact (own_fit128 ⟨f i, g2⟩).2.2.2), e1, rfl⟩
theorem own_pn13 : plainFor (⟨"java/lang/String", "charAt", "(I)C"⟩ : MethodName) = true := by first | exact plainFor_of_name (by first | (simp [plainName, overriddenIn, x]; done) | decide +kernel) | decide +kernel
theorem ef_28 (m : MethodId) (q0 : Addr) (q1 : Int32) : entryFrame m #[(.ref q0), (.int q1)] 2 = mkF m 0 #[.val (.ref q0), .val (.int q1)] [] := by first | (simp [entryFrame, mkF, argsToLocals, Value.category, maxLocals]; done) | rfl
theorem d28_0 : decode jdk_42_method_56_code 0 = .ok (.aload_n 0, 1) := by decide +kernel
theorem own_pd4 : parseMethodDescriptor "()Z" = some ⟨[], some .boolean⟩ := by decide +kernel
theorem d28_1 : decode jdk_42_method_56_code 1 = .ok (.invokevirtual 492, 3) := by decide +kernel
theorem d28_4 : decode jdk_42_method_56_code 4 = .ok (.ifCond .eq 12, 3) := by decide +kernel
theorem d28_7 : decode jdk_42_method_56_code 7 = .ok (.aload_n 0, 1) := by decide +kernel
theorem d28_8 : decode jdk_42_method_56_code 8 = .ok (.getfield 9, 3) := by decide +kernel
theorem d28_11 : decode jdk_42_method_56_code 11 = .ok (.iload_n 1, 1) := by decide +kernel
theorem own_pd5 : parseMethodDescriptor "([BI)C" = some ⟨[(.array .byte), .int], some .char⟩ := by decide +kernel
theorem d28_12 : decode jdk_42_method_56_code 12 = .ok (.invokestatic 495, 3) := by decide +kernel
theorem d28_15 : decode jdk_42_method_56_code 15 = .ok (.ireturn, 1) := by decide +kernel
set_option maxRecDepth 65536 in
set_option maxHeartbeats 40000000 in
theorem own_c28 (l : Launch) (Z : State) (a0 : Array Value) (hw : ∀ d ∈ tables_1, d.before a0 Z = true) (cs : Int32) (fv gv : Value) (d1 d2 : Addr) (G : own_G Z cs fv gv d1 d2) (h0 : Heap) (n0 : Nat) (O0 : Old Z n0 h0) (t V : Addr) (n : Nat) (f : Nat → Nat) (H : own_T Z h0 t V n0 n f) (i : Nat) (g1 : i < n) (g2 : f i < 128) :
    Con l Z (⟨"java/lang/String", "charAt", "(I)C"⟩ : MethodName) jdk_42_method_56_code 2 (some .char) [] ({ frames := 3, cells := 0, slots := 0, locals := 40 } : Room) 0 0 #[(.ref t), (.int (Int32.ofNat i))] h0 (fun r h L => r = some (.int (Int32.ofNat (f i))) ∧ h = h0 ∧ L = []) := by
  refine Con.of own_pn13 ?_
  intro pg ev s_ m bl mt cd s₁ hx hby hml hown hnm hret hlk hZ X0 e0
  rw [ef_28]
  show Gd _ _ _ _ (s₁.setTop (mkF m 0 #[.val (.ref t), .val (.int (Int32.ofNat i))] []))
  have H' := H
  obtain ⟨tE, tV, tC, tA, t1, t2, t3⟩ := H'
  refine Gd.go (fun _ w_k => XS.aloadN X0.here hx rfl (hb hby d28_0) rfl rfl w_k) ?_
  show Gd _ _ _ _ (s₁.setTop (mkF m 1 #[.val (.ref t), .val (.int (Int32.ofNat i))] [(.ref t)]))
  obtain ⟨T1, X1, e1, st1⟩ := own_callVP X0 hx hZ (C := "java/lang/String") (y := (⟨"java/lang/String", "isLatin1", "()Z"⟩ : MethodName)) hown (hw _ (List.mem_of_getElem? (i := 190) rfl)) (hw _ (List.mem_of_getElem? (i := 129) rfl)) (hw _ (List.mem_of_getElem? (i := 131) rfl)) (hw _ (List.mem_of_getElem? (i := 130) rfl)) (hw _ (List.mem_of_getElem? (i := 37) rfl)) (hw _ (List.mem_of_getElem? (i := 132) rfl)) (by decide) tE (W := 0) (own_c18 l Z a0 hw cs fv gv d1 d2 G h0 n0 O0 t V n f H) rfl rfl e0 (by decide) (by decide) (g := (mkF m 1 #[.val (.ref t), .val (.int (Int32.ofNat i))] [(.ref t)])) rfl (by rw [hml]; rfl) (argsL := []) (rest := []) (lenOf own_pd4 rfl) rfl (Nat.le_of_eq rfl) (hb hby d28_1) rfl
  refine Gd.go (fun _ w_k => st1 _ w_k) ?_
  show Gd _ _ _ _ (T1.setTop (mkF m 4 #[.val (.ref t), .val (.int (Int32.ofNat i))] [(.int (1 : Int32))]))
  refine Gd.go (fun _ w_k => XS.ifNo X1.here hx rfl (hb hby d28_4) rfl ((if0 _ _).trans (feq (by decide)).1) w_k) ?_
  show Gd _ _ _ _ (T1.setTop (mkF m 7 #[.val (.ref t), .val (.int (Int32.ofNat i))] []))
  refine Gd.go (fun _ w_k => XS.aloadN X1.here hx rfl (hb hby d28_7) rfl rfl w_k) ?_
  show Gd _ _ _ _ (T1.setTop (mkF m 8 #[.val (.ref t), .val (.int (Int32.ofNat i))] [(.ref t)]))
  obtain ⟨T2, X2, e2, st2⟩ := getF X1 hx hZ hown (host := "") (Or.inl (hw _ (List.mem_of_getElem? (i := 54) rfl))) Via.refl e1 tV (g := (mkF m 8 #[.val (.ref t), .val (.int (Int32.ofNat i))] [(.ref t)])) rfl rfl (hb hby d28_8)
  refine Gd.go (fun _ w_k => st2 _ w_k) ?_
  show Gd _ _ _ _ (T2.setTop (mkF m 11 #[.val (.ref t), .val (.int (Int32.ofNat i))] [(.ref V)]))
  refine Gd.go (fun _ w_k => XS.iloadN X2.here hx rfl (hb hby d28_11) rfl w_k) ?_
  show Gd _ _ _ _ (T2.setTop (mkF m 12 #[.val (.ref t), .val (.int (Int32.ofNat i))] [(.int (Int32.ofNat i)), (.ref V)]))
  obtain ⟨T3, X3, e3, st3⟩ := own_callSP X2 hx hZ (y := (⟨"java/lang/StringLatin1", "charAt", "([BI)C"⟩ : MethodName)) hown (hw _ (List.mem_of_getElem? (i := 191) rfl)) (hw _ (List.mem_of_getElem? (i := 192) rfl)) (hw _ (List.mem_of_getElem? (i := 193) rfl)) (hw _ (List.mem_of_getElem? (i := 194) rfl)) (by decide) (W := 0) (own_c29 l Z a0 hw cs fv gv d1 d2 G h0 n0 O0 V n f tA i g1 g2) rfl rfl e2 (by decide) (by decide) (g := (mkF m 12 #[.val (.ref t), .val (.int (Int32.ofNat i))] [(.int (Int32.ofNat i)), (.ref V)])) rfl (by rw [hml]; rfl) (argsL := [(.ref V), (.int (Int32.ofNat i))]) (rest := []) (lenOf own_pd5 rfl) rfl (Nat.le_of_eq rfl) (hb hby d28_12) rfl
  refine Gd.go (fun _ w_k => st3 _ w_k) ?_
  show Gd _ _ _ _ (T3.setTop (mkF m 15 #[.val (.ref t), .val (.int (Int32.ofNat i))] [(.int (Int32.ofNat (f i)))]))
  refine own_retN (t := .char) X3 hx hret hlk (by simp) (hb hby d28_15) ?_ (by decide) (by decide)
  exact ⟨congrArg (fun q => some (Value.int q)) (own_fit128 ⟨f i, g2⟩).2.2.2, e3, rfl⟩
theorem own_pn14 : plainFor (⟨"java/lang/AbstractStringBuilder", "ensureCapacityInternal", "(I)V"⟩ : MethodName) = true := by first | exact plainFor_of_name (by first | (simp [plainName, overriddenIn, x]; done) | decide +kernel) | decide +kernel
theorem ef_15 (m : MethodId) (q0 : Addr) (q1 : Int32) : entryFrame m #[(.ref q0), (.int q1)] 3 = mkF m 0 #[.val (.ref q0), .val (.int q1), .unset] [] := by first | (simp [entryFrame, mkF, argsToLocals, Value.category, maxLocals]; done) | rfl
theorem d15_0 : decode jdk_68_method_9_code 0 = .ok (.aload_n 0, 1) := by decide +kernel
theorem d15_1 : decode jdk_68_method_9_code 1 = .ok (.getfield 15, 3) := by decide +kernel
theorem d15_4 : decode jdk_68_method_9_code 4 = .ok (.arraylength, 1) := by decide +kernel
theorem d15_5 : decode jdk_68_method_9_code 5 = .ok (.aload_n 0, 1) := by decide +kernel
theorem d15_6 : decode jdk_68_method_9_code 6 = .ok (.getfield 22, 3) := by decide +kernel
theorem d15_9 : decode jdk_68_method_9_code 9 = .ok (.ishr, 1) := by decide +kernel
theorem d15_10 : decode jdk_68_method_9_code 10 = .ok (.istore_n 2, 1) := by decide +kernel
theorem d15_11 : decode jdk_68_method_9_code 11 = .ok (.iload_n 1, 1) := by decide +kernel
theorem d15_12 : decode jdk_68_method_9_code 12 = .ok (.iload_n 2, 1) := by decide +kernel
theorem d15_13 : decode jdk_68_method_9_code 13 = .ok (.isub, 1) := by decide +kernel
theorem d15_14 : decode jdk_68_method_9_code 14 = .ok (.ifCond .le 24, 3) := by decide +kernel
theorem d15_38 : decode jdk_68_method_9_code 38 = .ok (.return_, 1) := by decide +kernel
set_option maxRecDepth 65536 in
set_option maxHeartbeats 40000000 in
theorem own_c15 (l : Launch) (Z : State) (a0 : Array Value) (hw : ∀ d ∈ tables_1, d.before a0 Z = true) (cs : Int32) (fv gv : Value) (d1 d2 : Addr) (G : own_G Z cs fv gv d1 d2) (h0 : Heap) (n0 : Nat) (O0 : Old Z n0 h0) (b A : Addr) (cap cnt : Nat) (g : Nat → Nat) (S : own_SB Z h0 b A n0 cap cnt g) (k : Nat) (hk : k ≤ cap) :
    Con l Z (⟨"java/lang/AbstractStringBuilder", "ensureCapacityInternal", "(I)V"⟩ : MethodName) jdk_68_method_9_code 3 none [] ({ frames := 0, cells := 0, slots := 0, locals := 0 } : Room) 0 0 #[(.ref b), (.int (Int32.ofNat k))] h0 (fun r h L => r = none ∧ h = h0 ∧ L = []) := by
  refine Con.of own_pn14 ?_
  intro pg ev s_ m bl mt cd s₁ hx hby hml hown hnm hret hlk hZ X0 e0
  rw [ef_15]
  show Gd _ _ _ _ (s₁.setTop (mkF m 0 #[.val (.ref b), .val (.int (Int32.ofNat k)), .unset] []))
  obtain ⟨bE, bV, bC, bN, bA, bX, sn1, sn2, sn3, sn4⟩ := S
  have n31 := bA.n31
  refine Gd.go (fun _ w_k => XS.aloadN X0.here hx rfl (hb hby d15_0) rfl rfl w_k) ?_
  show Gd _ _ _ _ (s₁.setTop (mkF m 1 #[.val (.ref b), .val (.int (Int32.ofNat k)), .unset] [(.ref b)]))
  obtain ⟨T1, X1, e1, st1⟩ := getF X0 hx hZ hown (host := "") (Or.inl (hw _ (List.mem_of_getElem? (i := 83) rfl))) Via.refl e0 bV (g := (mkF m 1 #[.val (.ref b), .val (.int (Int32.ofNat k)), .unset] [(.ref b)])) rfl rfl (hb hby d15_1)
  refine Gd.go (fun _ w_k => st1 _ w_k) ?_
  show Gd _ _ _ _ (T1.setTop (mkF m 4 #[.val (.ref b), .val (.int (Int32.ofNat k)), .unset] [(.ref A)]))
  refine Gd.go (fun _ w_k => own_len X1 hx hZ e1 bA (z := (Int32.ofNat cap)) rfl (g := (mkF m 4 #[.val (.ref b), .val (.int (Int32.ofNat k)), .unset] [(.ref A)])) rfl rfl (hb hby d15_4) _ w_k) ?_
  show Gd _ _ _ _ (T1.setTop (mkF m 5 #[.val (.ref b), .val (.int (Int32.ofNat k)), .unset] [(.int (Int32.ofNat cap))]))
  refine Gd.go (fun _ w_k => XS.aloadN X1.here hx rfl (hb hby d15_5) rfl rfl w_k) ?_
  show Gd _ _ _ _ (T1.setTop (mkF m 6 #[.val (.ref b), .val (.int (Int32.ofNat k)), .unset] [(.ref b), (.int (Int32.ofNat cap))]))
  obtain ⟨T2, X2, e2, st2⟩ := getF X1 hx hZ hown (host := "") (Or.inl (hw _ (List.mem_of_getElem? (i := 85) rfl))) Via.refl e1 bC (g := (mkF m 6 #[.val (.ref b), .val (.int (Int32.ofNat k)), .unset] [(.ref b), (.int (Int32.ofNat cap))])) rfl rfl (hb hby d15_6)
  refine Gd.go (fun _ w_k => st2 _ w_k) ?_
  show Gd _ _ _ _ (T2.setTop (mkF m 9 #[.val (.ref b), .val (.int (Int32.ofNat k)), .unset] [(.int (0 : Int32)), (.int (Int32.ofNat cap))]))
  refine Gd.go (fun _ w_k => XS.ishr X2.here hx rfl (hb hby d15_9) rfl w_k) ?_
  show Gd _ _ _ _ (T2.setTop (mkF m 10 #[.val (.ref b), .val (.int (Int32.ofNat k)), .unset] [(.int ((Int32.ofNat cap) >>> ((0 : Int32) &&& 31)))]))
  refine Gd.go (fun _ w_k => XS.istoreN X2.here hx rfl (hb hby d15_10) rfl (l' := #[.val (.ref b), .val (.int (Int32.ofNat k)), .val (.int ((Int32.ofNat cap) >>> ((0 : Int32) &&& 31)))]) rfl w_k) ?_
  show Gd _ _ _ _ (T2.setTop (mkF m 11 #[.val (.ref b), .val (.int (Int32.ofNat k)), .val (.int ((Int32.ofNat cap) >>> ((0 : Int32) &&& 31)))] []))
  refine Gd.go (fun _ w_k => XS.iloadN X2.here hx rfl (hb hby d15_11) rfl w_k) ?_
  show Gd _ _ _ _ (T2.setTop (mkF m 12 #[.val (.ref b), .val (.int (Int32.ofNat k)), .val (.int ((Int32.ofNat cap) >>> ((0 : Int32) &&& 31)))] [(.int (Int32.ofNat k))]))
  refine Gd.go (fun _ w_k => XS.iloadN X2.here hx rfl (hb hby d15_12) rfl w_k) ?_
  show Gd _ _ _ _ (T2.setTop (mkF m 13 #[.val (.ref b), .val (.int (Int32.ofNat k)), .val (.int ((Int32.ofNat cap) >>> ((0 : Int32) &&& 31)))] [(.int ((Int32.ofNat cap) >>> ((0 : Int32) &&& 31))), (.int (Int32.ofNat k))]))
  refine Gd.go (fun _ w_k => XS.isub X2.here hx rfl (hb hby d15_13) rfl w_k) ?_
  show Gd _ _ _ _ (T2.setTop (mkF m 14 #[.val (.ref b), .val (.int (Int32.ofNat k)), .val (.int ((Int32.ofNat cap) >>> ((0 : Int32) &&& 31)))] [(.int ((Int32.ofNat k) - ((Int32.ofNat cap) >>> ((0 : Int32) &&& 31))))]))
  refine Gd.go (fun _ w_k => XS.ifYes X2.here hx rfl (pc0 := 14) (pc' := 38) rfl (hb hby d15_14) rfl ((if0 _ _).trans (flt (own_ens hk n31)).2.2.2) (by decide) (by decide) w_k) ?_
  show Gd _ _ _ _ (T2.setTop (mkF m 38 #[.val (.ref b), .val (.int (Int32.ofNat k)), .val (.int ((Int32.ofNat cap) >>> ((0 : Int32) &&& 31)))] []))
  refine own_retV X2 hx hret hlk (hb hby d15_38) ?_ (by decide) (by decide)
  exact ⟨rfl, e2, rfl⟩
theorem own_pn15 : plainFor (⟨"java/lang/AbstractStringBuilder", "appendChars", "(Ljava/lang/String;II)V"⟩ : MethodName) = true := by first | exact plainFor_of_name (by first | (simp [plainName, overriddenIn, x]; done) | decide +kernel) | decide +kernel
theorem ef_16 (m : MethodId) (q0 : Addr) (q1 : Addr) (q2 : Int32) (q3 : Int32) : entryFrame m #[(.ref q0), (.ref q1), (.int q2), (.int q3)] 8 = mkF m 0 #[.val (.ref q0), .val (.ref q1), .val (.int q2), .val (.int q3), .unset, .unset, .unset, .unset] [] := by first | (simp [entryFrame, mkF, argsToLocals, Value.category, maxLocals]; done) | rfl
theorem d16_0 : decode jdk_68_method_75_code 0 = .ok (.aload_n 0, 1) := by decide +kernel
theorem d16_1 : decode jdk_68_method_75_code 1 = .ok (.invokevirtual 83, 3) := by decide +kernel
theorem d16_4 : decode jdk_68_method_75_code 4 = .ok (.ifCond .eq 141, 3) := by decide +kernel
theorem d16_7 : decode jdk_68_method_75_code 7 = .ok (.aload_n 1, 1) := by decide +kernel
theorem d16_8 : decode jdk_68_method_75_code 8 = .ok (.invokevirtual 400, 3) := by decide +kernel
theorem d16_11 : decode jdk_68_method_75_code 11 = .ok (.ifCond .eq 25, 3) := by decide +kernel
theorem d16_14 : decode jdk_68_method_75_code 14 = .ok (.aload_n 1, 1) := by decide +kernel
theorem own_pd6 : parseMethodDescriptor "()[B" = some ⟨[], some (.array .byte)⟩ := by decide +kernel
theorem d16_15 : decode jdk_68_method_75_code 15 = .ok (.invokevirtual 401, 3) := by decide +kernel
theorem d16_18 : decode jdk_68_method_75_code 18 = .ok (.iload_n 2, 1) := by decide +kernel
theorem d16_19 : decode jdk_68_method_75_code 19 = .ok (.aload_n 0, 1) := by decide +kernel
theorem d16_20 : decode jdk_68_method_75_code 20 = .ok (.getfield 15, 3) := by decide +kernel
theorem d16_23 : decode jdk_68_method_75_code 23 = .ok (.aload_n 0, 1) := by decide +kernel
theorem d16_24 : decode jdk_68_method_75_code 24 = .ok (.getfield 79, 3) := by decide +kernel
theorem d16_27 : decode jdk_68_method_75_code 27 = .ok (.iload_n 3, 1) := by decide +kernel
theorem d16_28 : decode jdk_68_method_75_code 28 = .ok (.iload_n 2, 1) := by decide +kernel
theorem d16_29 : decode jdk_68_method_75_code 29 = .ok (.isub, 1) := by decide +kernel
theorem d16_30 : decode jdk_68_method_75_code 30 = .ok (.invokestatic 309, 3) := by decide +kernel
theorem d16_33 : decode jdk_68_method_75_code 33 = .ok (.goto 161, 3) := by decide +kernel
theorem d16_194 : decode jdk_68_method_75_code 194 = .ok (.aload_n 0, 1) := by decide +kernel
theorem d16_195 : decode jdk_68_method_75_code 195 = .ok (.dup, 1) := by decide +kernel
theorem d16_196 : decode jdk_68_method_75_code 196 = .ok (.getfield 79, 3) := by decide +kernel
theorem d16_199 : decode jdk_68_method_75_code 199 = .ok (.iload_n 3, 1) := by decide +kernel
theorem d16_200 : decode jdk_68_method_75_code 200 = .ok (.iload_n 2, 1) := by decide +kernel
theorem d16_201 : decode jdk_68_method_75_code 201 = .ok (.isub, 1) := by decide +kernel
theorem d16_202 : decode jdk_68_method_75_code 202 = .ok (.iadd, 1) := by decide +kernel
theorem d16_203 : decode jdk_68_method_75_code 203 = .ok (.putfield 79, 3) := by decide +kernel
theorem d16_206 : decode jdk_68_method_75_code 206 = .ok (.return_, 1) := by decide +kernel
set_option maxRecDepth 65536 in
set_option maxHeartbeats 40000000 in
theorem own_c16 (l : Launch) (Z : State) (a0 : Array Value) (hw : ∀ d ∈ tables_1, d.before a0 Z = true) (cs : Int32) (fv gv : Value) (d1 d2 : Addr) (G : own_G Z cs fv gv d1 d2) (h0 : Heap) (n0 : Nat) (O0 : Old Z n0 h0) (b A : Addr) (cap cnt : Nat) (g : Nat → Nat) (S : own_SB Z h0 b A n0 cap cnt g) (t V : Addr) (n : Nat) (f : Nat → Nat) (H : own_T Z h0 t V n0 n f) (D : own_D b A t V) (lo hi : Nat) (g1 : lo ≤ hi) (g2 : hi ≤ n) (g3 : cnt + (hi - lo) ≤ cap) (fb : own_by f) :
    Con l Z (⟨"java/lang/AbstractStringBuilder", "appendChars", "(Ljava/lang/String;II)V"⟩ : MethodName) jdk_68_method_75_code 8 none [] ({ frames := 1, cells := 0, slots := 0, locals := 40 } : Room) 0 0 #[(.ref b), (.ref t), (.int (Int32.ofNat lo)), (.int (Int32.ofNat hi))] h0 (fun r h L => r = none ∧ Keep h0 h [b, A] ∧ own_SB Z h b A n0 cap (cnt + (hi - lo)) (fun i => if cnt ≤ i ∧ i < cnt + (hi - lo) then f (lo + (i - cnt)) else g i) ∧ Old Z n0 h ∧ Fr n0 L) := by
  refine Con.of own_pn15 ?_
  intro pg ev s_ m bl mt cd s₁ hx hby hml hown hnm hret hlk hZ X0 e0
  rw [ef_16]
  show Gd _ _ _ _ (s₁.setTop (mkF m 0 #[.val (.ref b), .val (.ref t), .val (.int (Int32.ofNat lo)), .val (.int (Int32.ofNat hi)), .unset, .unset, .unset, .unset] []))
  have S' := S
  have H' := H
  obtain ⟨D1, D2, D3, D4⟩ := D
  obtain ⟨bE, bV, bC, bN, bA, bX, sn1, sn2, sn3, sn4⟩ := S'
  obtain ⟨tE, tV, tC, tA, t1, t2, t3⟩ := H'
  have N0 := Fr.nil n0
  have K0 := Keep.refl h0 [b, A]
  have nA := bA.n31
  have nV := tA.n31
  refine Gd.go (fun _ w_k => XS.aloadN X0.here hx rfl (hb hby d16_0) rfl rfl w_k) ?_
  show Gd _ _ _ _ (s₁.setTop (mkF m 1 #[.val (.ref b), .val (.ref t), .val (.int (Int32.ofNat lo)), .val (.int (Int32.ofNat hi)), .unset, .unset, .unset, .unset] [(.ref b)]))
  obtain ⟨T1, X1, e1, st1⟩ := own_callVP X0 hx hZ (C := "java/lang/StringBuilder") (y := (⟨"java/lang/AbstractStringBuilder", "isLatin1", "()Z"⟩ : MethodName)) hown (hw _ (List.mem_of_getElem? (i := 123) rfl)) (hw _ (List.mem_of_getElem? (i := 124) rfl)) (hw _ (List.mem_of_getElem? (i := 126) rfl)) (hw _ (List.mem_of_getElem? (i := 125) rfl)) (hw _ (List.mem_of_getElem? (i := 79) rfl)) (hw _ (List.mem_of_getElem? (i := 127) rfl)) (by decide) bE (W := 0) (own_c17 l Z a0 hw cs fv gv d1 d2 G h0 n0 O0 b A cap cnt g S) rfl rfl e0 (by decide) (by decide) (g := (mkF m 1 #[.val (.ref b), .val (.ref t), .val (.int (Int32.ofNat lo)), .val (.int (Int32.ofNat hi)), .unset, .unset, .unset, .unset] [(.ref b)])) rfl (by rw [hml]; rfl) (argsL := []) (rest := []) (lenOf own_pd4 rfl) rfl (Nat.le_of_eq rfl) (hb hby d16_1) rfl
  refine Gd.go (fun _ w_k => st1 _ w_k) ?_
  show Gd _ _ _ _ (T1.setTop (mkF m 4 #[.val (.ref b), .val (.ref t), .val (.int (Int32.ofNat lo)), .val (.int (Int32.ofNat hi)), .unset, .unset, .unset, .unset] [(.int (1 : Int32))]))
  refine Gd.go (fun _ w_k => XS.ifNo X1.here hx rfl (hb hby d16_4) rfl ((if0 _ _).trans (feq (by decide)).1) w_k) ?_
  show Gd _ _ _ _ (T1.setTop (mkF m 7 #[.val (.ref b), .val (.ref t), .val (.int (Int32.ofNat lo)), .val (.int (Int32.ofNat hi)), .unset, .unset, .unset, .unset] []))
  refine Gd.go (fun _ w_k => XS.aloadN X1.here hx rfl (hb hby d16_7) rfl rfl w_k) ?_
  show Gd _ _ _ _ (T1.setTop (mkF m 8 #[.val (.ref b), .val (.ref t), .val (.int (Int32.ofNat lo)), .val (.int (Int32.ofNat hi)), .unset, .unset, .unset, .unset] [(.ref t)]))
  obtain ⟨T2, X2, e2, st2⟩ := own_callVP X1 hx hZ (C := "java/lang/String") (y := (⟨"java/lang/String", "isLatin1", "()Z"⟩ : MethodName)) hown (hw _ (List.mem_of_getElem? (i := 128) rfl)) (hw _ (List.mem_of_getElem? (i := 129) rfl)) (hw _ (List.mem_of_getElem? (i := 131) rfl)) (hw _ (List.mem_of_getElem? (i := 130) rfl)) (hw _ (List.mem_of_getElem? (i := 37) rfl)) (hw _ (List.mem_of_getElem? (i := 132) rfl)) (by decide) tE (W := 0) (own_c18 l Z a0 hw cs fv gv d1 d2 G h0 n0 O0 t V n f H) rfl rfl e1 (by decide) (by decide) (g := (mkF m 8 #[.val (.ref b), .val (.ref t), .val (.int (Int32.ofNat lo)), .val (.int (Int32.ofNat hi)), .unset, .unset, .unset, .unset] [(.ref t)])) rfl (by rw [hml]; rfl) (argsL := []) (rest := []) (lenOf own_pd4 rfl) rfl (Nat.le_of_eq rfl) (hb hby d16_8) rfl
  refine Gd.go (fun _ w_k => st2 _ w_k) ?_
  show Gd _ _ _ _ (T2.setTop (mkF m 11 #[.val (.ref b), .val (.ref t), .val (.int (Int32.ofNat lo)), .val (.int (Int32.ofNat hi)), .unset, .unset, .unset, .unset] [(.int (1 : Int32))]))
  refine Gd.go (fun _ w_k => XS.ifNo X2.here hx rfl (hb hby d16_11) rfl ((if0 _ _).trans (feq (by decide)).1) w_k) ?_
  show Gd _ _ _ _ (T2.setTop (mkF m 14 #[.val (.ref b), .val (.ref t), .val (.int (Int32.ofNat lo)), .val (.int (Int32.ofNat hi)), .unset, .unset, .unset, .unset] []))
  refine Gd.go (fun _ w_k => XS.aloadN X2.here hx rfl (hb hby d16_14) rfl rfl w_k) ?_
  show Gd _ _ _ _ (T2.setTop (mkF m 15 #[.val (.ref b), .val (.ref t), .val (.int (Int32.ofNat lo)), .val (.int (Int32.ofNat hi)), .unset, .unset, .unset, .unset] [(.ref t)]))
  obtain ⟨T3, X3, e3, st3⟩ := own_callVP X2 hx hZ (C := "java/lang/String") (y := (⟨"java/lang/String", "value", "()[B"⟩ : MethodName)) hown (hw _ (List.mem_of_getElem? (i := 133) rfl)) (hw _ (List.mem_of_getElem? (i := 134) rfl)) (hw _ (List.mem_of_getElem? (i := 136) rfl)) (hw _ (List.mem_of_getElem? (i := 135) rfl)) (hw _ (List.mem_of_getElem? (i := 37) rfl)) (hw _ (List.mem_of_getElem? (i := 137) rfl)) (by decide) tE (W := 0) (own_c19 l Z a0 hw cs fv gv d1 d2 G h0 n0 O0 t V n f H) rfl rfl e2 (by decide) (by decide) (g := (mkF m 15 #[.val (.ref b), .val (.ref t), .val (.int (Int32.ofNat lo)), .val (.int (Int32.ofNat hi)), .unset, .unset, .unset, .unset] [(.ref t)])) rfl (by rw [hml]; rfl) (argsL := []) (rest := []) (lenOf own_pd6 rfl) rfl (Nat.le_of_eq rfl) (hb hby d16_15) rfl
  refine Gd.go (fun _ w_k => st3 _ w_k) ?_
  show Gd _ _ _ _ (T3.setTop (mkF m 18 #[.val (.ref b), .val (.ref t), .val (.int (Int32.ofNat lo)), .val (.int (Int32.ofNat hi)), .unset, .unset, .unset, .unset] [(.ref V)]))
  refine Gd.go (fun _ w_k => XS.iloadN X3.here hx rfl (hb hby d16_18) rfl w_k) ?_
  show Gd _ _ _ _ (T3.setTop (mkF m 19 #[.val (.ref b), .val (.ref t), .val (.int (Int32.ofNat lo)), .val (.int (Int32.ofNat hi)), .unset, .unset, .unset, .unset] [(.int (Int32.ofNat lo)), (.ref V)]))
  refine Gd.go (fun _ w_k => XS.aloadN X3.here hx rfl (hb hby d16_19) rfl rfl w_k) ?_
  show Gd _ _ _ _ (T3.setTop (mkF m 20 #[.val (.ref b), .val (.ref t), .val (.int (Int32.ofNat lo)), .val (.int (Int32.ofNat hi)), .unset, .unset, .unset, .unset] [(.ref b), (.int (Int32.ofNat lo)), (.ref V)]))
  obtain ⟨T4, X4, e4, st4⟩ := getF X3 hx hZ hown (host := "") (Or.inl (hw _ (List.mem_of_getElem? (i := 83) rfl))) Via.refl e3 bV (g := (mkF m 20 #[.val (.ref b), .val (.ref t), .val (.int (Int32.ofNat lo)), .val (.int (Int32.ofNat hi)), .unset, .unset, .unset, .unset] [(.ref b), (.int (Int32.ofNat lo)), (.ref V)])) rfl rfl (hb hby d16_20)
  refine Gd.go (fun _ w_k => st4 _ w_k) ?_
  show Gd _ _ _ _ (T4.setTop (mkF m 23 #[.val (.ref b), .val (.ref t), .val (.int (Int32.ofNat lo)), .val (.int (Int32.ofNat hi)), .unset, .unset, .unset, .unset] [(.ref A), (.int (Int32.ofNat lo)), (.ref V)]))
  refine Gd.go (fun _ w_k => XS.aloadN X4.here hx rfl (hb hby d16_23) rfl rfl w_k) ?_
  show Gd _ _ _ _ (T4.setTop (mkF m 24 #[.val (.ref b), .val (.ref t), .val (.int (Int32.ofNat lo)), .val (.int (Int32.ofNat hi)), .unset, .unset, .unset, .unset] [(.ref b), (.ref A), (.int (Int32.ofNat lo)), (.ref V)]))
  obtain ⟨T5, X5, e5, st5⟩ := getF X4 hx hZ hown (host := "") (Or.inl (hw _ (List.mem_of_getElem? (i := 110) rfl))) Via.refl e4 bN (g := (mkF m 24 #[.val (.ref b), .val (.ref t), .val (.int (Int32.ofNat lo)), .val (.int (Int32.ofNat hi)), .unset, .unset, .unset, .unset] [(.ref b), (.ref A), (.int (Int32.ofNat lo)), (.ref V)])) rfl rfl (hb hby d16_24)
  refine Gd.go (fun _ w_k => st5 _ w_k) ?_
  show Gd _ _ _ _ (T5.setTop (mkF m 27 #[.val (.ref b), .val (.ref t), .val (.int (Int32.ofNat lo)), .val (.int (Int32.ofNat hi)), .unset, .unset, .unset, .unset] [(.int (Int32.ofNat cnt)), (.ref A), (.int (Int32.ofNat lo)), (.ref V)]))
  refine Gd.go (fun _ w_k => XS.iloadN X5.here hx rfl (hb hby d16_27) rfl w_k) ?_
  show Gd _ _ _ _ (T5.setTop (mkF m 28 #[.val (.ref b), .val (.ref t), .val (.int (Int32.ofNat lo)), .val (.int (Int32.ofNat hi)), .unset, .unset, .unset, .unset] [(.int (Int32.ofNat hi)), (.int (Int32.ofNat cnt)), (.ref A), (.int (Int32.ofNat lo)), (.ref V)]))
  refine Gd.go (fun _ w_k => XS.iloadN X5.here hx rfl (hb hby d16_28) rfl w_k) ?_
  show Gd _ _ _ _ (T5.setTop (mkF m 29 #[.val (.ref b), .val (.ref t), .val (.int (Int32.ofNat lo)), .val (.int (Int32.ofNat hi)), .unset, .unset, .unset, .unset] [(.int (Int32.ofNat lo)), (.int (Int32.ofNat hi)), (.int (Int32.ofNat cnt)), (.ref A), (.int (Int32.ofNat lo)), (.ref V)]))
  refine Gd.go (fun _ w_k => XS.isub X5.here hx rfl (hb hby d16_29) rfl w_k) ?_
  show Gd _ _ _ _ (T5.setTop (mkF m 30 #[.val (.ref b), .val (.ref t), .val (.int (Int32.ofNat lo)), .val (.int (Int32.ofNat hi)), .unset, .unset, .unset, .unset] [(.int ((Int32.ofNat hi) - (Int32.ofNat lo))), (.int (Int32.ofNat cnt)), (.ref A), (.int (Int32.ofNat lo)), (.ref V)]))
  rw [own_subN g1]
  show Gd _ _ _ _ (T5.setTop (mkF m 30 #[.val (.ref b), .val (.ref t), .val (.int (Int32.ofNat lo)), .val (.int (Int32.ofNat hi)), .unset, .unset, .unset, .unset] [(.int (Int32.ofNat (hi - lo))), (.int (Int32.ofNat cnt)), (.ref A), (.int (Int32.ofNat lo)), (.ref V)]))
  obtain ⟨T6, h6, L6, X6, e6, Nc6, Kc6, Ac6, st6⟩ := own_cp X5 hx hZ hown (hw _ (List.mem_of_getElem? (i := 138) rfl)) (hw _ (List.mem_of_getElem? (i := 141) rfl)) (hw _ (List.mem_of_getElem? (i := 139) rfl)) (hw _ (List.mem_of_getElem? (i := 140) rfl)) e5 (ty := .byte) rfl tA bA (own_fitB fb) (own_fitB sn4) (sp := (Int32.ofNat lo)) (dp := (Int32.ofNat cnt)) (nn := (Int32.ofNat (hi - lo))) (by rw [own_ofN (by omega)]; omega) (by rw [own_ofN (by omega)]; omega) (by rw [own_ofN (by omega)]; omega) (by rw [own_ofN (by omega), own_ofN (by omega)]; omega) (by rw [own_ofN (by omega), own_ofN (by omega)]; omega) N0 sn2 (g := (mkF m 30 #[.val (.ref b), .val (.ref t), .val (.int (Int32.ofNat lo)), .val (.int (Int32.ofNat hi)), .unset, .unset, .unset, .unset] [(.int (Int32.ofNat (hi - lo))), (.int (Int32.ofNat cnt)), (.ref A), (.int (Int32.ofNat lo)), (.ref V)])) rfl (by rw [hml]; rfl) rfl (hb hby d16_30) (by decide) (W := 0) (Nat.le_of_eq rfl) (by decide)
  refine Gd.go (fun _ w_k => st6 _ w_k) ?_
  have xF7 := bE.keep Kc6
  have xF8 := bV.keep Kc6 (ninS sn3 nin0)
  have xF9 := bC.keep Kc6 (ninS sn3 nin0)
  have xF10 := bN.keep Kc6 (ninS sn3 nin0)
  have xF11 := bX.keep Kc6
  have xF12 := tE.keep Kc6
  have xF13 := tV.keep Kc6 (ninS (Ne.symm D3) nin0)
  have xF14 := tC.keep Kc6 (ninS (Ne.symm D3) nin0)
  have xF15 := tA.keep Kc6 (ninS (Ne.symm D4) nin0)
  have xO16 := Old.keep O0 Kc6 (allS sn2 all0)
  have xK17 := Keep.trans K0 Kc6 (allS (P := fun z => z ∈ ([b, A] : List Addr) ∨ h0.size ≤ z) (Or.inl (List.mem_cons_of_mem _ (List.mem_singleton.mpr rfl))) all0)
  show Gd _ _ _ _ (T6.setTop (mkF m 33 #[.val (.ref b), .val (.ref t), .val (.int (Int32.ofNat lo)), .val (.int (Int32.ofNat hi)), .unset, .unset, .unset, .unset] []))
  refine Gd.go (fun _ w_k => XS.goto X6.here hx rfl (pc0 := 33) (pc' := 194) rfl (hb hby d16_33) (by decide) (by decide) w_k) ?_
  show Gd _ _ _ _ (T6.setTop (mkF m 194 #[.val (.ref b), .val (.ref t), .val (.int (Int32.ofNat lo)), .val (.int (Int32.ofNat hi)), .unset, .unset, .unset, .unset] []))
  refine Gd.go (fun _ w_k => XS.aloadN X6.here hx rfl (hb hby d16_194) rfl rfl w_k) ?_
  show Gd _ _ _ _ (T6.setTop (mkF m 195 #[.val (.ref b), .val (.ref t), .val (.int (Int32.ofNat lo)), .val (.int (Int32.ofNat hi)), .unset, .unset, .unset, .unset] [(.ref b)]))
  refine Gd.go (fun _ w_k => XS.dup X6.here hx rfl (hb hby d16_195) rfl rfl w_k) ?_
  show Gd _ _ _ _ (T6.setTop (mkF m 196 #[.val (.ref b), .val (.ref t), .val (.int (Int32.ofNat lo)), .val (.int (Int32.ofNat hi)), .unset, .unset, .unset, .unset] [(.ref b), (.ref b)]))
  obtain ⟨T18, X18, e18, st18⟩ := getF X6 hx hZ hown (host := "") (Or.inl (hw _ (List.mem_of_getElem? (i := 110) rfl))) Via.refl e6 xF10 (g := (mkF m 196 #[.val (.ref b), .val (.ref t), .val (.int (Int32.ofNat lo)), .val (.int (Int32.ofNat hi)), .unset, .unset, .unset, .unset] [(.ref b), (.ref b)])) rfl rfl (hb hby d16_196)
  refine Gd.go (fun _ w_k => st18 _ w_k) ?_
  show Gd _ _ _ _ (T18.setTop (mkF m 199 #[.val (.ref b), .val (.ref t), .val (.int (Int32.ofNat lo)), .val (.int (Int32.ofNat hi)), .unset, .unset, .unset, .unset] [(.int (Int32.ofNat cnt)), (.ref b)]))
  refine Gd.go (fun _ w_k => XS.iloadN X18.here hx rfl (hb hby d16_199) rfl w_k) ?_
  show Gd _ _ _ _ (T18.setTop (mkF m 200 #[.val (.ref b), .val (.ref t), .val (.int (Int32.ofNat lo)), .val (.int (Int32.ofNat hi)), .unset, .unset, .unset, .unset] [(.int (Int32.ofNat hi)), (.int (Int32.ofNat cnt)), (.ref b)]))
  refine Gd.go (fun _ w_k => XS.iloadN X18.here hx rfl (hb hby d16_200) rfl w_k) ?_
  show Gd _ _ _ _ (T18.setTop (mkF m 201 #[.val (.ref b), .val (.ref t), .val (.int (Int32.ofNat lo)), .val (.int (Int32.ofNat hi)), .unset, .unset, .unset, .unset] [(.int (Int32.ofNat lo)), (.int (Int32.ofNat hi)), (.int (Int32.ofNat cnt)), (.ref b)]))
  refine Gd.go (fun _ w_k => XS.isub X18.here hx rfl (hb hby d16_201) rfl w_k) ?_
  show Gd _ _ _ _ (T18.setTop (mkF m 202 #[.val (.ref b), .val (.ref t), .val (.int (Int32.ofNat lo)), .val (.int (Int32.ofNat hi)), .unset, .unset, .unset, .unset] [(.int ((Int32.ofNat hi) - (Int32.ofNat lo))), (.int (Int32.ofNat cnt)), (.ref b)]))
  refine Gd.go (fun _ w_k => XS.iadd X18.here hx rfl (hb hby d16_202) rfl w_k) ?_
  show Gd _ _ _ _ (T18.setTop (mkF m 203 #[.val (.ref b), .val (.ref t), .val (.int (Int32.ofNat lo)), .val (.int (Int32.ofNat hi)), .unset, .unset, .unset, .unset] [(.int ((Int32.ofNat cnt) + ((Int32.ofNat hi) - (Int32.ofNat lo)))), (.ref b)]))
  rw [own_subN g1, own_addN]
  show Gd _ _ _ _ (T18.setTop (mkF m 203 #[.val (.ref b), .val (.ref t), .val (.int (Int32.ofNat lo)), .val (.int (Int32.ofNat hi)), .unset, .unset, .unset, .unset] [(.int (Int32.ofNat (cnt + (hi - lo)))), (.ref b)]))
  obtain ⟨T19, h19, X19, e19, W19, st19⟩ := putF X18 hx hZ hown (host := "") (Or.inl (hw _ (List.mem_of_getElem? (i := 110) rfl))) Via.refl e18 xF10 xF7 (Or.inl (hw _ (List.mem_of_getElem? (i := 111) rfl))) (hw _ (List.mem_of_getElem? (i := 70) rfl)) (ty := .int) (by decide) rfl rfl (g := (mkF m 203 #[.val (.ref b), .val (.ref t), .val (.int (Int32.ofNat lo)), .val (.int (Int32.ofNat hi)), .unset, .unset, .unset, .unset] [(.int (Int32.ofNat (cnt + (hi - lo)))), (.ref b)])) rfl rfl (hb hby d16_203)
  refine Gd.go (fun _ w_k => st19 _ w_k) ?_
  have xF20 := xF7.wr W19
  have xF21 := xF8.other W19 (Or.inr (slot_ne (Or.inl (hw _ (List.mem_of_getElem? (i := 84) rfl))) (Or.inl (hw _ (List.mem_of_getElem? (i := 111) rfl))) (by decide) (t := (.array .byte)) (t' := .int) (by decide) (by decide)))
  have xF22 := xF9.other W19 (Or.inr (slot_ne (Or.inl (hw _ (List.mem_of_getElem? (i := 86) rfl))) (Or.inl (hw _ (List.mem_of_getElem? (i := 111) rfl))) (by decide) (t := .byte) (t' := .int) (by decide) (by decide)))
  have xF23 := xF10.same W19
  have xF24 := xF11.wr W19
  have xF25 := xF12.wr W19
  have xF26 := xF13.other W19 (Or.inl (Ne.symm D1))
  have xF27 := xF14.other W19 (Or.inl (Ne.symm D1))
  have xF28 := xF15.other W19 (Ne.symm D2)
  have xF29 := Ac6.other W19 (Ne.symm sn3)
  have xN30 := Fr.snoc X19 Nc6 sn1
  have xO31 := Old.wr xO16 W19 sn1
  have xK32 := Keep.wr xK17 W19 (Or.inl (List.mem_cons_self ..))
  show Gd _ _ _ _ (T19.setTop (mkF m 206 #[.val (.ref b), .val (.ref t), .val (.int (Int32.ofNat lo)), .val (.int (Int32.ofNat hi)), .unset, .unset, .unset, .unset] []))
  refine own_retV X19 hx hret hlk (hb hby d16_206) ?_ (by decide) (by decide)
  rw [e19]
  refine ⟨rfl, xK32, ⟨xF20, xF21, xF22, xF23, ?_, xF24, sn1, sn2, sn3, fun i => ?_⟩, xO31, xN30⟩
  · refine ArF.congr xF29 fun i hi' => ?_
    rw [own_ofC (by omega), own_ofC (by omega), own_ofC (by omega)]
    by_cases q : cnt ≤ i ∧ i < cnt + (hi - lo)
    · rw [if_pos q]; show _ = Value.int (Int32.ofNat (if cnt ≤ i ∧ i < cnt + (hi - lo) then f (lo + (i - cnt)) else g i)); rw [if_pos q]; rfl
    · rw [if_neg q]; show _ = Value.int (Int32.ofNat (if cnt ≤ i ∧ i < cnt + (hi - lo) then f (lo + (i - cnt)) else g i)); rw [if_neg q]; rfl
  · dsimp only; split
    · exact fb _
    · exact sn4 _
theorem own_pn16 : plainFor (⟨"java/lang/AbstractStringBuilder", "append", "(Ljava/lang/CharSequence;II)Ljava/lang/AbstractStringBuilder;"⟩ : MethodName) = true := by first | exact plainFor_of_name (by first | (simp [plainName, overriddenIn, x]; done) | decide +kernel) | decide +kernel
theorem ef_13 (m : MethodId) (q0 : Addr) (q1 : Addr) (q2 : Int32) (q3 : Int32) : entryFrame m #[(.ref q0), (.ref q1), (.int q2), (.int q3)] 5 = mkF m 0 #[.val (.ref q0), .val (.ref q1), .val (.int q2), .val (.int q3), .unset] [] := by first | (simp [entryFrame, mkF, argsToLocals, Value.category, maxLocals]; done) | rfl
theorem d13_0 : decode jdk_68_method_27_code 0 = .ok (.aload_n 1, 1) := by decide +kernel
theorem d13_1 : decode jdk_68_method_27_code 1 = .ok (.ifnonnull 6, 3) := by decide +kernel
theorem d13_7 : decode jdk_68_method_27_code 7 = .ok (.iload_n 2, 1) := by decide +kernel
theorem d13_8 : decode jdk_68_method_27_code 8 = .ok (.iload_n 3, 1) := by decide +kernel
theorem d13_9 : decode jdk_68_method_27_code 9 = .ok (.aload_n 1, 1) := by decide +kernel
theorem d13_10 : decode jdk_68_method_27_code 10 = .ok (.invokeinterface 47 1, 5) := by decide +kernel
theorem d13_15 : decode jdk_68_method_27_code 15 = .ok (.getstatic 183, 3) := by decide +kernel
theorem own_pd7 : parseMethodDescriptor "(IIILjava/util/function/BiFunction;)I" = some ⟨[.int, .int, .int, (.object "java/util/function/BiFunction")], some .int⟩ := by decide +kernel
theorem d13_18 : decode jdk_68_method_27_code 18 = .ok (.invokestatic 161, 3) := by decide +kernel
theorem d13_21 : decode jdk_68_method_27_code 21 = .ok (.pop, 1) := by decide +kernel
theorem d13_22 : decode jdk_68_method_27_code 22 = .ok (.iload_n 3, 1) := by decide +kernel
theorem d13_23 : decode jdk_68_method_27_code 23 = .ok (.iload_n 2, 1) := by decide +kernel
theorem d13_24 : decode jdk_68_method_27_code 24 = .ok (.isub, 1) := by decide +kernel
theorem d13_25 : decode jdk_68_method_27_code 25 = .ok (.istore 4, 2) := by decide +kernel
theorem d13_27 : decode jdk_68_method_27_code 27 = .ok (.aload_n 0, 1) := by decide +kernel
theorem d13_28 : decode jdk_68_method_27_code 28 = .ok (.aload_n 0, 1) := by decide +kernel
theorem d13_29 : decode jdk_68_method_27_code 29 = .ok (.getfield 79, 3) := by decide +kernel
theorem d13_32 : decode jdk_68_method_27_code 32 = .ok (.iload 4, 2) := by decide +kernel
theorem d13_34 : decode jdk_68_method_27_code 34 = .ok (.iadd, 1) := by decide +kernel
theorem own_pd8 : parseMethodDescriptor "(I)V" = some ⟨[.int], none⟩ := by decide +kernel
theorem d13_35 : decode jdk_68_method_27_code 35 = .ok (.invokevirtual 100, 3) := by decide +kernel
theorem d13_38 : decode jdk_68_method_27_code 38 = .ok (.aload_n 1, 1) := by decide +kernel
theorem d13_39 : decode jdk_68_method_27_code 39 = .ok (.instanceof 1, 3) := by decide +kernel
theorem d13_42 : decode jdk_68_method_27_code 42 = .ok (.ifCond .eq 16, 3) := by decide +kernel
theorem d13_45 : decode jdk_68_method_27_code 45 = .ok (.aload_n 0, 1) := by decide +kernel
theorem d13_46 : decode jdk_68_method_27_code 46 = .ok (.aload_n 1, 1) := by decide +kernel
theorem d13_47 : decode jdk_68_method_27_code 47 = .ok (.checkcast 1, 3) := by decide +kernel
theorem d13_50 : decode jdk_68_method_27_code 50 = .ok (.iload_n 2, 1) := by decide +kernel
theorem d13_51 : decode jdk_68_method_27_code 51 = .ok (.iload_n 3, 1) := by decide +kernel
theorem own_pd9 : parseMethodDescriptor "(Ljava/lang/String;II)V" = some ⟨[(.object "java/lang/String"), .int, .int], none⟩ := by decide +kernel
theorem d13_52 : decode jdk_68_method_27_code 52 = .ok (.invokevirtual 232, 3) := by decide +kernel
theorem d13_55 : decode jdk_68_method_27_code 55 = .ok (.goto 10, 3) := by decide +kernel
theorem d13_65 : decode jdk_68_method_27_code 65 = .ok (.aload_n 0, 1) := by decide +kernel
theorem d13_66 : decode jdk_68_method_27_code 66 = .ok (.areturn, 1) := by decide +kernel
set_option maxRecDepth 65536 in
set_option maxHeartbeats 40000000 in
theorem own_c13 (l : Launch) (Z : State) (a0 : Array Value) (hw : ∀ d ∈ tables_1, d.before a0 Z = true) (cs : Int32) (fv gv : Value) (d1 d2 : Addr) (G : own_G Z cs fv gv d1 d2) (h0 : Heap) (n0 : Nat) (O0 : Old Z n0 h0) (b A : Addr) (cap cnt : Nat) (g : Nat → Nat) (S : own_SB Z h0 b A n0 cap cnt g) (t V : Addr) (n : Nat) (f : Nat → Nat) (H : own_T Z h0 t V n0 n f) (D : own_D b A t V) (lo hi : Nat) (g1 : lo ≤ hi) (g2 : hi ≤ n) (g3 : cnt + (hi - lo) ≤ cap) (fb : own_by f) :
    Con l Z (⟨"java/lang/AbstractStringBuilder", "append", "(Ljava/lang/CharSequence;II)Ljava/lang/AbstractStringBuilder;"⟩ : MethodName) jdk_68_method_27_code 5 (some (.object "java/lang/AbstractStringBuilder")) [] ({ frames := 2, cells := 0, slots := 0, locals := 59 } : Room) 0 0 #[(.ref b), (.ref t), (.int (Int32.ofNat lo)), (.int (Int32.ofNat hi))] h0 (fun r h L => r = some (.ref b) ∧ Keep h0 h [b, A] ∧ own_SB Z h b A n0 cap (cnt + (hi - lo)) (fun i => if cnt ≤ i ∧ i < cnt + (hi - lo) then f (lo + (i - cnt)) else g i) ∧ Old Z n0 h ∧ Fr n0 L) := by
  refine Con.of own_pn16 ?_
  intro pg ev s_ m bl mt cd s₁ hx hby hml hown hnm hret hlk hZ X0 e0
  rw [ef_13]
  show Gd _ _ _ _ (s₁.setTop (mkF m 0 #[.val (.ref b), .val (.ref t), .val (.int (Int32.ofNat lo)), .val (.int (Int32.ofNat hi)), .unset] []))
  have S' := S
  have H' := H
  obtain ⟨bE, bV, bC, bN, bA, bX, sn1, sn2, sn3, sn4⟩ := S'
  obtain ⟨tE, tV, tC, tA, t1, t2, t3⟩ := H'
  have nV := tA.n31
  refine Gd.go (fun _ w_k => XS.aloadN X0.here hx rfl (hb hby d13_0) rfl rfl w_k) ?_
  show Gd _ _ _ _ (s₁.setTop (mkF m 1 #[.val (.ref b), .val (.ref t), .val (.int (Int32.ofNat lo)), .val (.int (Int32.ofNat hi)), .unset] [(.ref t)]))
  refine Gd.go (fun _ w_k => XS.ifnonnullYes X0.here hx rfl (pc0 := 1) (pc' := 7) rfl (hb hby d13_1) rfl (by decide) (by decide) w_k) ?_
  show Gd _ _ _ _ (s₁.setTop (mkF m 7 #[.val (.ref b), .val (.ref t), .val (.int (Int32.ofNat lo)), .val (.int (Int32.ofNat hi)), .unset] []))
  refine Gd.go (fun _ w_k => XS.iloadN X0.here hx rfl (hb hby d13_7) rfl w_k) ?_
  show Gd _ _ _ _ (s₁.setTop (mkF m 8 #[.val (.ref b), .val (.ref t), .val (.int (Int32.ofNat lo)), .val (.int (Int32.ofNat hi)), .unset] [(.int (Int32.ofNat lo))]))
  refine Gd.go (fun _ w_k => XS.iloadN X0.here hx rfl (hb hby d13_8) rfl w_k) ?_
  show Gd _ _ _ _ (s₁.setTop (mkF m 9 #[.val (.ref b), .val (.ref t), .val (.int (Int32.ofNat lo)), .val (.int (Int32.ofNat hi)), .unset] [(.int (Int32.ofNat hi)), (.int (Int32.ofNat lo))]))
  refine Gd.go (fun _ w_k => XS.aloadN X0.here hx rfl (hb hby d13_9) rfl rfl w_k) ?_
  show Gd _ _ _ _ (s₁.setTop (mkF m 10 #[.val (.ref b), .val (.ref t), .val (.int (Int32.ofNat lo)), .val (.int (Int32.ofNat hi)), .unset] [(.ref t), (.int (Int32.ofNat hi)), (.int (Int32.ofNat lo))]))
  obtain ⟨T1, X1, e1, st1⟩ := own_callFP X0 hx hZ (C := "java/lang/String") (xi := (⟨"java/lang/CharSequence", "length", "()I"⟩ : MethodName)) (y := (⟨"java/lang/String", "length", "()I"⟩ : MethodName)) hown (hw _ (List.mem_of_getElem? (i := 97) rfl)) (hw _ (List.mem_of_getElem? (i := 98) rfl)) (hw _ (List.mem_of_getElem? (i := 99) rfl)) (hw _ (List.mem_of_getElem? (i := 100) rfl)) (hw _ (List.mem_of_getElem? (i := 60) rfl)) (hw _ (List.mem_of_getElem? (i := 101) rfl)) (hw _ (List.mem_of_getElem? (i := 102) rfl)) (hw _ (List.mem_of_getElem? (i := 103) rfl)) (by first | rfl | decide) (by first | rfl | decide) (hw _ (List.mem_of_getElem? (i := 37) rfl)) (hw _ (List.mem_of_getElem? (i := 62) rfl)) (by decide) tE (W := 2) (own_c8 l Z a0 hw cs fv gv d1 d2 G h0 n0 O0 t V n f H) rfl rfl e0 (by decide) (by decide) (g := (mkF m 10 #[.val (.ref b), .val (.ref t), .val (.int (Int32.ofNat lo)), .val (.int (Int32.ofNat hi)), .unset] [(.ref t), (.int (Int32.ofNat hi)), (.int (Int32.ofNat lo))])) rfl (by rw [hml]; rfl) (argsL := []) (rest := [(.int (Int32.ofNat hi)), (.int (Int32.ofNat lo))]) (lenOf own_pd1 rfl) rfl (Nat.le_of_eq rfl) (hb hby d13_10) rfl
  refine Gd.go (fun _ w_k => st1 _ w_k) ?_
  show Gd _ _ _ _ (T1.setTop (mkF m 15 #[.val (.ref b), .val (.ref t), .val (.int (Int32.ofNat lo)), .val (.int (Int32.ofNat hi)), .unset] [(.int (Int32.ofNat n)), (.int (Int32.ofNat hi)), (.int (Int32.ofNat lo))]))
  obtain ⟨T2, X2, e2, st2⟩ := getS2 X1 hx hZ hown (host := "") (Or.inl (hw _ (List.mem_of_getElem? (i := 104) rfl))) Via.refl e1 (G.2.2.1.ext O0.2) (g := (mkF m 15 #[.val (.ref b), .val (.ref t), .val (.int (Int32.ofNat lo)), .val (.int (Int32.ofNat hi)), .unset] [(.int (Int32.ofNat n)), (.int (Int32.ofNat hi)), (.int (Int32.ofNat lo))])) rfl (hb hby d13_15)
  refine Gd.go (fun _ w_k => st2 _ w_k) ?_
  show Gd _ _ _ _ (T2.setTop (mkF m 18 #[.val (.ref b), .val (.ref t), .val (.int (Int32.ofNat lo)), .val (.int (Int32.ofNat hi)), .unset] [fv, (.int (Int32.ofNat n)), (.int (Int32.ofNat hi)), (.int (Int32.ofNat lo))]))
  obtain ⟨T3, X3, e3, st3⟩ := own_callSP X2 hx hZ (y := (⟨"jdk/internal/util/Preconditions", "checkFromToIndex", "(IIILjava/util/function/BiFunction;)I"⟩ : MethodName)) hown (hw _ (List.mem_of_getElem? (i := 107) rfl)) (hw _ (List.mem_of_getElem? (i := 108) rfl)) (hw _ (List.mem_of_getElem? (i := 105) rfl)) (hw _ (List.mem_of_getElem? (i := 109) rfl)) (by decide) (W := 0) (own_c14 l Z a0 hw lo hi n fv G.2.2.2.1 g1 g2 nV h0) rfl rfl e2 (by decide) (by decide) (g := (mkF m 18 #[.val (.ref b), .val (.ref t), .val (.int (Int32.ofNat lo)), .val (.int (Int32.ofNat hi)), .unset] [fv, (.int (Int32.ofNat n)), (.int (Int32.ofNat hi)), (.int (Int32.ofNat lo))])) rfl (by rw [hml]; rfl) (argsL := [(.int (Int32.ofNat lo)), (.int (Int32.ofNat hi)), (.int (Int32.ofNat n)), fv]) (rest := []) (lenOf own_pd7 rfl) rfl (Nat.le_of_eq rfl) (hb hby d13_18) rfl
  refine Gd.go (fun _ w_k => st3 _ w_k) ?_
  show Gd _ _ _ _ (T3.setTop (mkF m 21 #[.val (.ref b), .val (.ref t), .val (.int (Int32.ofNat lo)), .val (.int (Int32.ofNat hi)), .unset] [(.int (Int32.ofNat lo))]))
  refine Gd.go (fun _ w_k => XS.pop X3.here hx rfl (hb hby d13_21) rfl rfl w_k) ?_
  show Gd _ _ _ _ (T3.setTop (mkF m 22 #[.val (.ref b), .val (.ref t), .val (.int (Int32.ofNat lo)), .val (.int (Int32.ofNat hi)), .unset] []))
  refine Gd.go (fun _ w_k => XS.iloadN X3.here hx rfl (hb hby d13_22) rfl w_k) ?_
  show Gd _ _ _ _ (T3.setTop (mkF m 23 #[.val (.ref b), .val (.ref t), .val (.int (Int32.ofNat lo)), .val (.int (Int32.ofNat hi)), .unset] [(.int (Int32.ofNat hi))]))
  refine Gd.go (fun _ w_k => XS.iloadN X3.here hx rfl (hb hby d13_23) rfl w_k) ?_
  show Gd _ _ _ _ (T3.setTop (mkF m 24 #[.val (.ref b), .val (.ref t), .val (.int (Int32.ofNat lo)), .val (.int (Int32.ofNat hi)), .unset] [(.int (Int32.ofNat lo)), (.int (Int32.ofNat hi))]))
  refine Gd.go (fun _ w_k => XS.isub X3.here hx rfl (hb hby d13_24) rfl w_k) ?_
  show Gd _ _ _ _ (T3.setTop (mkF m 25 #[.val (.ref b), .val (.ref t), .val (.int (Int32.ofNat lo)), .val (.int (Int32.ofNat hi)), .unset] [(.int ((Int32.ofNat hi) - (Int32.ofNat lo)))]))
  refine Gd.go (fun _ w_k => XS.istore X3.here hx rfl (hb hby d13_25) rfl (l' := #[.val (.ref b), .val (.ref t), .val (.int (Int32.ofNat lo)), .val (.int (Int32.ofNat hi)), .val (.int ((Int32.ofNat hi) - (Int32.ofNat lo)))]) rfl w_k) ?_
  show Gd _ _ _ _ (T3.setTop (mkF m 27 #[.val (.ref b), .val (.ref t), .val (.int (Int32.ofNat lo)), .val (.int (Int32.ofNat hi)), .val (.int ((Int32.ofNat hi) - (Int32.ofNat lo)))] []))
  refine Gd.go (fun _ w_k => XS.aloadN X3.here hx rfl (hb hby d13_27) rfl rfl w_k) ?_
  show Gd _ _ _ _ (T3.setTop (mkF m 28 #[.val (.ref b), .val (.ref t), .val (.int (Int32.ofNat lo)), .val (.int (Int32.ofNat hi)), .val (.int ((Int32.ofNat hi) - (Int32.ofNat lo)))] [(.ref b)]))
  refine Gd.go (fun _ w_k => XS.aloadN X3.here hx rfl (hb hby d13_28) rfl rfl w_k) ?_
  show Gd _ _ _ _ (T3.setTop (mkF m 29 #[.val (.ref b), .val (.ref t), .val (.int (Int32.ofNat lo)), .val (.int (Int32.ofNat hi)), .val (.int ((Int32.ofNat hi) - (Int32.ofNat lo)))] [(.ref b), (.ref b)]))
  obtain ⟨T4, X4, e4, st4⟩ := getF X3 hx hZ hown (host := "") (Or.inl (hw _ (List.mem_of_getElem? (i := 110) rfl))) Via.refl e3 bN (g := (mkF m 29 #[.val (.ref b), .val (.ref t), .val (.int (Int32.ofNat lo)), .val (.int (Int32.ofNat hi)), .val (.int ((Int32.ofNat hi) - (Int32.ofNat lo)))] [(.ref b), (.ref b)])) rfl rfl (hb hby d13_29)
  refine Gd.go (fun _ w_k => st4 _ w_k) ?_
  show Gd _ _ _ _ (T4.setTop (mkF m 32 #[.val (.ref b), .val (.ref t), .val (.int (Int32.ofNat lo)), .val (.int (Int32.ofNat hi)), .val (.int ((Int32.ofNat hi) - (Int32.ofNat lo)))] [(.int (Int32.ofNat cnt)), (.ref b)]))
  refine Gd.go (fun _ w_k => XS.iload X4.here hx rfl (hb hby d13_32) rfl w_k) ?_
  show Gd _ _ _ _ (T4.setTop (mkF m 34 #[.val (.ref b), .val (.ref t), .val (.int (Int32.ofNat lo)), .val (.int (Int32.ofNat hi)), .val (.int ((Int32.ofNat hi) - (Int32.ofNat lo)))] [(.int ((Int32.ofNat hi) - (Int32.ofNat lo))), (.int (Int32.ofNat cnt)), (.ref b)]))
  refine Gd.go (fun _ w_k => XS.iadd X4.here hx rfl (hb hby d13_34) rfl w_k) ?_
  show Gd _ _ _ _ (T4.setTop (mkF m 35 #[.val (.ref b), .val (.ref t), .val (.int (Int32.ofNat lo)), .val (.int (Int32.ofNat hi)), .val (.int ((Int32.ofNat hi) - (Int32.ofNat lo)))] [(.int ((Int32.ofNat cnt) + ((Int32.ofNat hi) - (Int32.ofNat lo)))), (.ref b)]))
  rw [own_subN g1, own_addN]
  show Gd _ _ _ _ (T4.setTop (mkF m 35 #[.val (.ref b), .val (.ref t), .val (.int (Int32.ofNat lo)), .val (.int (Int32.ofNat hi)), .val (.int (Int32.ofNat (hi - lo)))] [(.int (Int32.ofNat (cnt + (hi - lo)))), (.ref b)]))
  obtain ⟨T5, X5, e5, st5⟩ := own_pureOf (own_callP X4 hx hZ (y := (⟨"java/lang/AbstractStringBuilder", "ensureCapacityInternal", "(I)V"⟩ : MethodName)) (y' := (⟨"java/lang/AbstractStringBuilder", "ensureCapacityInternal", "(I)V"⟩ : MethodName)) hown (hw _ (List.mem_of_getElem? (i := 112) rfl)) (hw _ (List.mem_of_getElem? (i := 115) rfl)) rfl (hw _ (List.mem_of_getElem? (i := 114) rfl)) (hw _ (List.mem_of_getElem? (i := 113) rfl)) (hw _ (List.mem_of_getElem? (i := 79) rfl)) (hw _ (List.mem_of_getElem? (i := 116) rfl)) (by decide) bE (W := 0) (own_c15 l Z a0 hw cs fv gv d1 d2 G h0 n0 O0 b A cap cnt g S (cnt + (hi - lo)) g3) rfl rfl e4 (by decide) (by decide) (g := (mkF m 35 #[.val (.ref b), .val (.ref t), .val (.int (Int32.ofNat lo)), .val (.int (Int32.ofNat hi)), .val (.int (Int32.ofNat (hi - lo)))] [(.int (Int32.ofNat (cnt + (hi - lo)))), (.ref b)])) rfl (by rw [hml]; rfl) (argsL := [(.int (Int32.ofNat (cnt + (hi - lo))))]) (rest := []) (lenOf own_pd8 rfl) rfl (Nat.le_of_eq rfl) (hb hby d13_35) rfl (by decide) (by decide))
  refine Gd.go (fun _ w_k => st5 _ w_k) ?_
  show Gd _ _ _ _ (T5.setTop (mkF m 38 #[.val (.ref b), .val (.ref t), .val (.int (Int32.ofNat lo)), .val (.int (Int32.ofNat hi)), .val (.int (Int32.ofNat (hi - lo)))] []))
  refine Gd.go (fun _ w_k => XS.aloadN X5.here hx rfl (hb hby d13_38) rfl rfl w_k) ?_
  show Gd _ _ _ _ (T5.setTop (mkF m 39 #[.val (.ref b), .val (.ref t), .val (.int (Int32.ofNat lo)), .val (.int (Int32.ofNat hi)), .val (.int (Int32.ofNat (hi - lo)))] [(.ref t)]))
  obtain ⟨T6, X6, e6, st6⟩ := instY X5 hx hZ hown (hw _ (List.mem_of_getElem? (i := 117) rfl)) e5 (Ins.self tE) (g := (mkF m 39 #[.val (.ref b), .val (.ref t), .val (.int (Int32.ofNat lo)), .val (.int (Int32.ofNat hi)), .val (.int (Int32.ofNat (hi - lo)))] [(.ref t)])) rfl rfl (hb hby d13_39)
  refine Gd.go (fun _ w_k => st6 _ w_k) ?_
  show Gd _ _ _ _ (T6.setTop (mkF m 42 #[.val (.ref b), .val (.ref t), .val (.int (Int32.ofNat lo)), .val (.int (Int32.ofNat hi)), .val (.int (Int32.ofNat (hi - lo)))] [(.int (1 : Int32))]))
  refine Gd.go (fun _ w_k => XS.ifNo X6.here hx rfl (hb hby d13_42) rfl ((if0 _ _).trans (feq (by decide)).1) w_k) ?_
  show Gd _ _ _ _ (T6.setTop (mkF m 45 #[.val (.ref b), .val (.ref t), .val (.int (Int32.ofNat lo)), .val (.int (Int32.ofNat hi)), .val (.int (Int32.ofNat (hi - lo)))] []))
  refine Gd.go (fun _ w_k => XS.aloadN X6.here hx rfl (hb hby d13_45) rfl rfl w_k) ?_
  show Gd _ _ _ _ (T6.setTop (mkF m 46 #[.val (.ref b), .val (.ref t), .val (.int (Int32.ofNat lo)), .val (.int (Int32.ofNat hi)), .val (.int (Int32.ofNat (hi - lo)))] [(.ref b)]))
  refine Gd.go (fun _ w_k => XS.aloadN X6.here hx rfl (hb hby d13_46) rfl rfl w_k) ?_
  show Gd _ _ _ _ (T6.setTop (mkF m 47 #[.val (.ref b), .val (.ref t), .val (.int (Int32.ofNat lo)), .val (.int (Int32.ofNat hi)), .val (.int (Int32.ofNat (hi - lo)))] [(.ref t), (.ref b)]))
  obtain ⟨T7, X7, e7, st7⟩ := castY X6 hx hZ hown (hw _ (List.mem_of_getElem? (i := 117) rfl)) e6 (Ins.self tE) (g := (mkF m 47 #[.val (.ref b), .val (.ref t), .val (.int (Int32.ofNat lo)), .val (.int (Int32.ofNat hi)), .val (.int (Int32.ofNat (hi - lo)))] [(.ref t), (.ref b)])) rfl rfl (hb hby d13_47)
  refine Gd.go (fun _ w_k => st7 _ w_k) ?_
  show Gd _ _ _ _ (T7.setTop (mkF m 50 #[.val (.ref b), .val (.ref t), .val (.int (Int32.ofNat lo)), .val (.int (Int32.ofNat hi)), .val (.int (Int32.ofNat (hi - lo)))] [(.ref t), (.ref b)]))
  refine Gd.go (fun _ w_k => XS.iloadN X7.here hx rfl (hb hby d13_50) rfl w_k) ?_
  show Gd _ _ _ _ (T7.setTop (mkF m 51 #[.val (.ref b), .val (.ref t), .val (.int (Int32.ofNat lo)), .val (.int (Int32.ofNat hi)), .val (.int (Int32.ofNat (hi - lo)))] [(.int (Int32.ofNat lo)), (.ref t), (.ref b)]))
  refine Gd.go (fun _ w_k => XS.iloadN X7.here hx rfl (hb hby d13_51) rfl w_k) ?_
  show Gd _ _ _ _ (T7.setTop (mkF m 52 #[.val (.ref b), .val (.ref t), .val (.int (Int32.ofNat lo)), .val (.int (Int32.ofNat hi)), .val (.int (Int32.ofNat (hi - lo)))] [(.int (Int32.ofNat hi)), (.int (Int32.ofNat lo)), (.ref t), (.ref b)]))
  obtain ⟨v8, T8, L8, X8, hQ8, st8⟩ := own_callP X7 hx hZ (y := (⟨"java/lang/AbstractStringBuilder", "appendChars", "(Ljava/lang/String;II)V"⟩ : MethodName)) (y' := (⟨"java/lang/AbstractStringBuilder", "ensureCapacityInternal", "(I)V"⟩ : MethodName)) hown (hw _ (List.mem_of_getElem? (i := 118) rfl)) (hw _ (List.mem_of_getElem? (i := 115) rfl)) rfl (hw _ (List.mem_of_getElem? (i := 120) rfl)) (hw _ (List.mem_of_getElem? (i := 119) rfl)) (hw _ (List.mem_of_getElem? (i := 79) rfl)) (hw _ (List.mem_of_getElem? (i := 122) rfl)) (by decide) bE (W := 0) (own_c16 l Z a0 hw cs fv gv d1 d2 G h0 n0 O0 b A cap cnt g S t V n f H D lo hi g1 g2 g3 fb) rfl rfl e7 (by decide) (by decide) (g := (mkF m 52 #[.val (.ref b), .val (.ref t), .val (.int (Int32.ofNat lo)), .val (.int (Int32.ofNat hi)), .val (.int (Int32.ofNat (hi - lo)))] [(.int (Int32.ofNat hi)), (.int (Int32.ofNat lo)), (.ref t), (.ref b)])) rfl (by rw [hml]; rfl) (argsL := [(.ref t), (.int (Int32.ofNat lo)), (.int (Int32.ofNat hi))]) (rest := []) (lenOf own_pd9 rfl) rfl (Nat.le_of_eq rfl) (hb hby d13_52) rfl (by decide) (by decide)
  obtain ⟨rfl, K9, S9, O9, N9⟩ := hQ8
  refine Gd.go (fun _ w_k => st8 _ w_k) ?_
  show Gd _ _ _ _ (T8.setTop (mkF m 55 #[.val (.ref b), .val (.ref t), .val (.int (Int32.ofNat lo)), .val (.int (Int32.ofNat hi)), .val (.int (Int32.ofNat (hi - lo)))] []))
  refine Gd.go (fun _ w_k => XS.goto X8.here hx rfl (pc0 := 55) (pc' := 65) rfl (hb hby d13_55) (by decide) (by decide) w_k) ?_
  show Gd _ _ _ _ (T8.setTop (mkF m 65 #[.val (.ref b), .val (.ref t), .val (.int (Int32.ofNat lo)), .val (.int (Int32.ofNat hi)), .val (.int (Int32.ofNat (hi - lo)))] []))
  refine Gd.go (fun _ w_k => XS.aloadN X8.here hx rfl (hb hby d13_65) rfl rfl w_k) ?_
  show Gd _ _ _ _ (T8.setTop (mkF m 66 #[.val (.ref b), .val (.ref t), .val (.int (Int32.ofNat lo)), .val (.int (Int32.ofNat hi)), .val (.int (Int32.ofNat (hi - lo)))] [(.ref b)]))
  refine own_retA X8 hx hret hlk rfl (hb hby d13_66) ?_ (by decide) (by decide)
  exact ⟨rfl, K9, S9, O9, by simpa using N9⟩
theorem own_pn17 : plainFor (⟨"java/lang/StringBuilder", "append", "(Ljava/lang/CharSequence;II)Ljava/lang/StringBuilder;"⟩ : MethodName) = true := by first | exact plainFor_of_name (by first | (simp [plainName, overriddenIn, x]; done) | decide +kernel) | decide +kernel
theorem ef_12 (m : MethodId) (q0 : Addr) (q1 : Addr) (q2 : Int32) (q3 : Int32) : entryFrame m #[(.ref q0), (.ref q1), (.int q2), (.int q3)] 4 = mkF m 0 #[.val (.ref q0), .val (.ref q1), .val (.int q2), .val (.int q3)] [] := by first | (simp [entryFrame, mkF, argsToLocals, Value.category, maxLocals]; done) | rfl
theorem d12_0 : decode jdk_67_method_10_code 0 = .ok (.aload_n 0, 1) := by decide +kernel
theorem d12_1 : decode jdk_67_method_10_code 1 = .ok (.aload_n 1, 1) := by decide +kernel
theorem d12_2 : decode jdk_67_method_10_code 2 = .ok (.iload_n 2, 1) := by decide +kernel
theorem d12_3 : decode jdk_67_method_10_code 3 = .ok (.iload_n 3, 1) := by decide +kernel
theorem own_pd10 : parseMethodDescriptor "(Ljava/lang/CharSequence;II)Ljava/lang/AbstractStringBuilder;" = some ⟨[(.object "java/lang/CharSequence"), .int, .int], some (.object "java/lang/AbstractStringBuilder")⟩ := by decide +kernel
theorem d12_4 : decode jdk_67_method_10_code 4 = .ok (.invokespecial 38, 3) := by decide +kernel
theorem d12_7 : decode jdk_67_method_10_code 7 = .ok (.pop, 1) := by decide +kernel
theorem d12_8 : decode jdk_67_method_10_code 8 = .ok (.aload_n 0, 1) := by decide +kernel
theorem d12_9 : decode jdk_67_method_10_code 9 = .ok (.areturn, 1) := by decide +kernel
set_option maxRecDepth 65536 in
set_option maxHeartbeats 40000000 in
theorem own_c12 (l : Launch) (Z : State) (a0 : Array Value) (hw : ∀ d ∈ tables_1, d.before a0 Z = true) (cs : Int32) (fv gv : Value) (d1 d2 : Addr) (G : own_G Z cs fv gv d1 d2) (h0 : Heap) (n0 : Nat) (O0 : Old Z n0 h0) (b A : Addr) (cap cnt : Nat) (g : Nat → Nat) (S : own_SB Z h0 b A n0 cap cnt g) (t V : Addr) (n : Nat) (f : Nat → Nat) (H : own_T Z h0 t V n0 n f) (D : own_D b A t V) (lo hi : Nat) (g1 : lo ≤ hi) (g2 : hi ≤ n) (g3 : cnt + (hi - lo) ≤ cap) (fb : own_by f) :
    Con l Z (⟨"java/lang/StringBuilder", "append", "(Ljava/lang/CharSequence;II)Ljava/lang/StringBuilder;"⟩ : MethodName) jdk_67_method_10_code 4 (some (.object "java/lang/StringBuilder")) [] ({ frames := 3, cells := 0, slots := 0, locals := 75 } : Room) 0 0 #[(.ref b), (.ref t), (.int (Int32.ofNat lo)), (.int (Int32.ofNat hi))] h0 (fun r h L => r = some (.ref b) ∧ Keep h0 h [b, A] ∧ own_SB Z h b A n0 cap (cnt + (hi - lo)) (fun i => if cnt ≤ i ∧ i < cnt + (hi - lo) then f (lo + (i - cnt)) else g i) ∧ Old Z n0 h ∧ Fr n0 L) := by
  refine Con.of own_pn17 ?_
  intro pg ev s_ m bl mt cd s₁ hx hby hml hown hnm hret hlk hZ X0 e0
  rw [ef_12]
  show Gd _ _ _ _ (s₁.setTop (mkF m 0 #[.val (.ref b), .val (.ref t), .val (.int (Int32.ofNat lo)), .val (.int (Int32.ofNat hi))] []))
  have S' := S
  obtain ⟨bE, bV, bC, bN, bA, bX, sn1, sn2, sn3, sn4⟩ := S'
  refine Gd.go (fun _ w_k => XS.aloadN X0.here hx rfl (hb hby d12_0) rfl rfl w_k) ?_
  show Gd _ _ _ _ (s₁.setTop (mkF m 1 #[.val (.ref b), .val (.ref t), .val (.int (Int32.ofNat lo)), .val (.int (Int32.ofNat hi))] [(.ref b)]))
  refine Gd.go (fun _ w_k => XS.aloadN X0.here hx rfl (hb hby d12_1) rfl rfl w_k) ?_
  show Gd _ _ _ _ (s₁.setTop (mkF m 2 #[.val (.ref b), .val (.ref t), .val (.int (Int32.ofNat lo)), .val (.int (Int32.ofNat hi))] [(.ref t), (.ref b)]))
  refine Gd.go (fun _ w_k => XS.iloadN X0.here hx rfl (hb hby d12_2) rfl w_k) ?_
  show Gd _ _ _ _ (s₁.setTop (mkF m 3 #[.val (.ref b), .val (.ref t), .val (.int (Int32.ofNat lo)), .val (.int (Int32.ofNat hi))] [(.int (Int32.ofNat lo)), (.ref t), (.ref b)]))
  refine Gd.go (fun _ w_k => XS.iloadN X0.here hx rfl (hb hby d12_3) rfl w_k) ?_
  show Gd _ _ _ _ (s₁.setTop (mkF m 4 #[.val (.ref b), .val (.ref t), .val (.int (Int32.ofNat lo)), .val (.int (Int32.ofNat hi))] [(.int (Int32.ofNat hi)), (.int (Int32.ofNat lo)), (.ref t), (.ref b)]))
  obtain ⟨v1, T1, L1, X1, hQ1, st1⟩ := own_callU X0 hx hZ (y := (⟨"java/lang/AbstractStringBuilder", "append", "(Ljava/lang/CharSequence;II)Ljava/lang/AbstractStringBuilder;"⟩ : MethodName)) (y' := (⟨"java/lang/AbstractStringBuilder", "ensureCapacityInternal", "(I)V"⟩ : MethodName)) hown (by decide) (hw _ (List.mem_of_getElem? (i := 92) rfl)) (hw _ (List.mem_of_getElem? (i := 115) rfl)) rfl (hw _ (List.mem_of_getElem? (i := 94) rfl)) (hw _ (List.mem_of_getElem? (i := 93) rfl)) (hw _ (List.mem_of_getElem? (i := 79) rfl)) (hw _ (List.mem_of_getElem? (i := 96) rfl)) (by decide) bE (W := 0) (own_c13 l Z a0 hw cs fv gv d1 d2 G h0 n0 O0 b A cap cnt g S t V n f H D lo hi g1 g2 g3 fb) rfl rfl e0 (by decide) (by decide) (g := (mkF m 4 #[.val (.ref b), .val (.ref t), .val (.int (Int32.ofNat lo)), .val (.int (Int32.ofNat hi))] [(.int (Int32.ofNat hi)), (.int (Int32.ofNat lo)), (.ref t), (.ref b)])) rfl (by rw [hml]; rfl) (argsL := [(.ref t), (.int (Int32.ofNat lo)), (.int (Int32.ofNat hi))]) (rest := []) (lenOf own_pd10 rfl) rfl (Nat.le_of_eq rfl) (hb hby d12_4) rfl (by decide) (by decide)
  obtain ⟨rfl, K9, S9, O9, N9⟩ := hQ1
  refine Gd.go (fun _ w_k => st1 _ w_k) ?_
  show Gd _ _ _ _ (T1.setTop (mkF m 7 #[.val (.ref b), .val (.ref t), .val (.int (Int32.ofNat lo)), .val (.int (Int32.ofNat hi))] [(.ref b)]))
  refine Gd.go (fun _ w_k => XS.pop X1.here hx rfl (hb hby d12_7) rfl rfl w_k) ?_
  show Gd _ _ _ _ (T1.setTop (mkF m 8 #[.val (.ref b), .val (.ref t), .val (.int (Int32.ofNat lo)), .val (.int (Int32.ofNat hi))] []))
  refine Gd.go (fun _ w_k => XS.aloadN X1.here hx rfl (hb hby d12_8) rfl rfl w_k) ?_
  show Gd _ _ _ _ (T1.setTop (mkF m 9 #[.val (.ref b), .val (.ref t), .val (.int (Int32.ofNat lo)), .val (.int (Int32.ofNat hi))] [(.ref b)]))
  refine own_retA X1 hx hret hlk rfl (hb hby d12_9) ?_ (by decide) (by decide)
  exact ⟨rfl, K9, S9, O9, by simpa using N9⟩
theorem own_pn18 : plainFor (⟨"java/lang/AbstractStringBuilder", "append", "(C)Ljava/lang/AbstractStringBuilder;"⟩ : MethodName) = true := by first | exact plainFor_of_name (by first | (simp [plainName, overriddenIn, x]; done) | decide +kernel) | decide +kernel
theorem ef_33 (m : MethodId) (q0 : Addr) (q1 : Int32) : entryFrame m #[(.ref q0), (.int q1)] 2 = mkF m 0 #[.val (.ref q0), .val (.int q1)] [] := by first | (simp [entryFrame, mkF, argsToLocals, Value.category, maxLocals]; done) | rfl
theorem d33_0 : decode jdk_68_method_31_code 0 = .ok (.aload_n 0, 1) := by decide +kernel
theorem d33_1 : decode jdk_68_method_31_code 1 = .ok (.aload_n 0, 1) := by decide +kernel
theorem d33_2 : decode jdk_68_method_31_code 2 = .ok (.getfield 79, 3) := by decide +kernel
theorem d33_5 : decode jdk_68_method_31_code 5 = .ok (.iconst 1, 1) := by decide +kernel
theorem d33_6 : decode jdk_68_method_31_code 6 = .ok (.iadd, 1) := by decide +kernel
theorem d33_7 : decode jdk_68_method_31_code 7 = .ok (.invokevirtual 100, 3) := by decide +kernel
theorem d33_10 : decode jdk_68_method_31_code 10 = .ok (.aload_n 0, 1) := by decide +kernel
theorem d33_11 : decode jdk_68_method_31_code 11 = .ok (.invokevirtual 83, 3) := by decide +kernel
theorem d33_14 : decode jdk_68_method_31_code 14 = .ok (.ifCond .eq 31, 3) := by decide +kernel
theorem d33_17 : decode jdk_68_method_31_code 17 = .ok (.iload_n 1, 1) := by decide +kernel
theorem own_pd11 : parseMethodDescriptor "(C)Z" = some ⟨[.char], some .boolean⟩ := by decide +kernel
theorem d33_18 : decode jdk_68_method_31_code 18 = .ok (.invokestatic 191, 3) := by decide +kernel
theorem d33_21 : decode jdk_68_method_31_code 21 = .ok (.ifCond .eq 24, 3) := by decide +kernel
theorem d33_24 : decode jdk_68_method_31_code 24 = .ok (.aload_n 0, 1) := by decide +kernel
theorem d33_25 : decode jdk_68_method_31_code 25 = .ok (.getfield 15, 3) := by decide +kernel
theorem d33_28 : decode jdk_68_method_31_code 28 = .ok (.aload_n 0, 1) := by decide +kernel
theorem d33_29 : decode jdk_68_method_31_code 29 = .ok (.dup, 1) := by decide +kernel
theorem d33_30 : decode jdk_68_method_31_code 30 = .ok (.getfield 79, 3) := by decide +kernel
theorem d33_33 : decode jdk_68_method_31_code 33 = .ok (.dup_x1, 1) := by decide +kernel
theorem d33_34 : decode jdk_68_method_31_code 34 = .ok (.iconst 1, 1) := by decide +kernel
theorem d33_35 : decode jdk_68_method_31_code 35 = .ok (.iadd, 1) := by decide +kernel
theorem d33_36 : decode jdk_68_method_31_code 36 = .ok (.putfield 79, 3) := by decide +kernel
theorem d33_39 : decode jdk_68_method_31_code 39 = .ok (.iload_n 1, 1) := by decide +kernel
theorem d33_40 : decode jdk_68_method_31_code 40 = .ok (.i2b, 1) := by decide +kernel
theorem d33_41 : decode jdk_68_method_31_code 41 = .ok (.bastore, 1) := by decide +kernel
theorem d33_42 : decode jdk_68_method_31_code 42 = .ok (.goto 33, 3) := by decide +kernel
theorem d33_75 : decode jdk_68_method_31_code 75 = .ok (.aload_n 0, 1) := by decide +kernel
theorem d33_76 : decode jdk_68_method_31_code 76 = .ok (.areturn, 1) := by decide +kernel
set_option maxRecDepth 65536 in
set_option maxHeartbeats 40000000 in
theorem own_c33 (l : Launch) (Z : State) (a0 : Array Value) (hw : ∀ d ∈ tables_1, d.before a0 Z = true) (cs : Int32) (fv gv : Value) (d1 d2 : Addr) (G : own_G Z cs fv gv d1 d2) (h0 : Heap) (n0 : Nat) (O0 : Old Z n0 h0) (b A : Addr) (cap cnt : Nat) (g : Nat → Nat) (S : own_SB Z h0 b A n0 cap cnt g) (g3 : cnt < cap) :
    Con l Z (⟨"java/lang/AbstractStringBuilder", "append", "(C)Ljava/lang/AbstractStringBuilder;"⟩ : MethodName) jdk_68_method_31_code 2 (some (.object "java/lang/AbstractStringBuilder")) [] ({ frames := 1, cells := 0, slots := 0, locals := 14 } : Room) 0 0 #[(.ref b), (.int (44 : Int32))] h0 (fun r h L => r = some (.ref b) ∧ Keep h0 h [b, A] ∧ own_SB Z h b A n0 cap (cnt + 1) (own_up g cnt 44) ∧ Old Z n0 h ∧ Fr n0 L) := by
  refine Con.of own_pn18 ?_
  intro pg ev s_ m bl mt cd s₁ hx hby hml hown hnm hret hlk hZ X0 e0
  rw [ef_33]
  show Gd _ _ _ _ (s₁.setTop (mkF m 0 #[.val (.ref b), .val (.int (44 : Int32))] []))
  have S' := S
  obtain ⟨bE, bV, bC, bN, bA, bX, sn1, sn2, sn3, sn4⟩ := S'
  have N0 := Fr.nil n0
  have K0 := Keep.refl h0 [b, A]
  have nA := bA.n31
  refine Gd.go (fun _ w_k => XS.aloadN X0.here hx rfl (hb hby d33_0) rfl rfl w_k) ?_
  show Gd _ _ _ _ (s₁.setTop (mkF m 1 #[.val (.ref b), .val (.int (44 : Int32))] [(.ref b)]))
  refine Gd.go (fun _ w_k => XS.aloadN X0.here hx rfl (hb hby d33_1) rfl rfl w_k) ?_
  show Gd _ _ _ _ (s₁.setTop (mkF m 2 #[.val (.ref b), .val (.int (44 : Int32))] [(.ref b), (.ref b)]))
  obtain ⟨T1, X1, e1, st1⟩ := getF X0 hx hZ hown (host := "") (Or.inl (hw _ (List.mem_of_getElem? (i := 110) rfl))) Via.refl e0 bN (g := (mkF m 2 #[.val (.ref b), .val (.int (44 : Int32))] [(.ref b), (.ref b)])) rfl rfl (hb hby d33_2)
  refine Gd.go (fun _ w_k => st1 _ w_k) ?_
  show Gd _ _ _ _ (T1.setTop (mkF m 5 #[.val (.ref b), .val (.int (44 : Int32))] [(.int (Int32.ofNat cnt)), (.ref b)]))
  refine Gd.go (fun _ w_k => XS.iconst X1.here hx rfl (hb hby d33_5) w_k) ?_
  show Gd _ _ _ _ (T1.setTop (mkF m 6 #[.val (.ref b), .val (.int (44 : Int32))] [(.int (1 : Int32)), (.int (Int32.ofNat cnt)), (.ref b)]))
  refine Gd.go (fun _ w_k => XS.iadd X1.here hx rfl (hb hby d33_6) rfl w_k) ?_
  show Gd _ _ _ _ (T1.setTop (mkF m 7 #[.val (.ref b), .val (.int (44 : Int32))] [(.int ((Int32.ofNat cnt) + (1 : Int32))), (.ref b)]))
  rw [own_incN]
  show Gd _ _ _ _ (T1.setTop (mkF m 7 #[.val (.ref b), .val (.int (44 : Int32))] [(.int (Int32.ofNat (cnt + 1))), (.ref b)]))
  obtain ⟨T2, X2, e2, st2⟩ := own_pureOf (own_callP X1 hx hZ (y := (⟨"java/lang/AbstractStringBuilder", "ensureCapacityInternal", "(I)V"⟩ : MethodName)) (y' := (⟨"java/lang/AbstractStringBuilder", "ensureCapacityInternal", "(I)V"⟩ : MethodName)) hown (hw _ (List.mem_of_getElem? (i := 112) rfl)) (hw _ (List.mem_of_getElem? (i := 115) rfl)) rfl (hw _ (List.mem_of_getElem? (i := 114) rfl)) (hw _ (List.mem_of_getElem? (i := 113) rfl)) (hw _ (List.mem_of_getElem? (i := 79) rfl)) (hw _ (List.mem_of_getElem? (i := 116) rfl)) (by decide) bE (W := 0) (own_c15 l Z a0 hw cs fv gv d1 d2 G h0 n0 O0 b A cap cnt g S (cnt + 1) g3) rfl rfl e1 (by decide) (by decide) (g := (mkF m 7 #[.val (.ref b), .val (.int (44 : Int32))] [(.int (Int32.ofNat (cnt + 1))), (.ref b)])) rfl (by rw [hml]; rfl) (argsL := [(.int (Int32.ofNat (cnt + 1)))]) (rest := []) (lenOf own_pd8 rfl) rfl (Nat.le_of_eq rfl) (hb hby d33_7) rfl (by decide) (by decide))
  refine Gd.go (fun _ w_k => st2 _ w_k) ?_
  show Gd _ _ _ _ (T2.setTop (mkF m 10 #[.val (.ref b), .val (.int (44 : Int32))] []))
  refine Gd.go (fun _ w_k => XS.aloadN X2.here hx rfl (hb hby d33_10) rfl rfl w_k) ?_
  show Gd _ _ _ _ (T2.setTop (mkF m 11 #[.val (.ref b), .val (.int (44 : Int32))] [(.ref b)]))
  obtain ⟨T3, X3, e3, st3⟩ := own_callVP X2 hx hZ (C := "java/lang/StringBuilder") (y := (⟨"java/lang/AbstractStringBuilder", "isLatin1", "()Z"⟩ : MethodName)) hown (hw _ (List.mem_of_getElem? (i := 123) rfl)) (hw _ (List.mem_of_getElem? (i := 124) rfl)) (hw _ (List.mem_of_getElem? (i := 126) rfl)) (hw _ (List.mem_of_getElem? (i := 125) rfl)) (hw _ (List.mem_of_getElem? (i := 79) rfl)) (hw _ (List.mem_of_getElem? (i := 127) rfl)) (by decide) bE (W := 0) (own_c17 l Z a0 hw cs fv gv d1 d2 G h0 n0 O0 b A cap cnt g S) rfl rfl e2 (by decide) (by decide) (g := (mkF m 11 #[.val (.ref b), .val (.int (44 : Int32))] [(.ref b)])) rfl (by rw [hml]; rfl) (argsL := []) (rest := []) (lenOf own_pd4 rfl) rfl (Nat.le_of_eq rfl) (hb hby d33_11) rfl
  refine Gd.go (fun _ w_k => st3 _ w_k) ?_
  show Gd _ _ _ _ (T3.setTop (mkF m 14 #[.val (.ref b), .val (.int (44 : Int32))] [(.int (1 : Int32))]))
  refine Gd.go (fun _ w_k => XS.ifNo X3.here hx rfl (hb hby d33_14) rfl ((if0 _ _).trans (feq (by decide)).1) w_k) ?_
  show Gd _ _ _ _ (T3.setTop (mkF m 17 #[.val (.ref b), .val (.int (44 : Int32))] []))
  refine Gd.go (fun _ w_k => XS.iloadN X3.here hx rfl (hb hby d33_17) rfl w_k) ?_
  show Gd _ _ _ _ (T3.setTop (mkF m 18 #[.val (.ref b), .val (.int (44 : Int32))] [(.int (44 : Int32))]))
  obtain ⟨T4, X4, e4, st4⟩ := own_callSP X3 hx hZ (y := (⟨"java/lang/StringLatin1", "canEncode", "(C)Z"⟩ : MethodName)) hown (hw _ (List.mem_of_getElem? (i := 214) rfl)) (hw _ (List.mem_of_getElem? (i := 215) rfl)) (hw _ (List.mem_of_getElem? (i := 193) rfl)) (hw _ (List.mem_of_getElem? (i := 216) rfl)) (by decide) (W := 0) (own_c34 l Z a0 hw h0) rfl rfl e3 (by decide) (by decide) (g := (mkF m 18 #[.val (.ref b), .val (.int (44 : Int32))] [(.int (44 : Int32))])) rfl (by rw [hml]; rfl) (argsL := [(.int (44 : Int32))]) (rest := []) (lenOf own_pd11 rfl) rfl (Nat.le_of_eq rfl) (hb hby d33_18) rfl
  refine Gd.go (fun _ w_k => st4 _ w_k) ?_
  show Gd _ _ _ _ (T4.setTop (mkF m 21 #[.val (.ref b), .val (.int (44 : Int32))] [(.int (1 : Int32))]))
  refine Gd.go (fun _ w_k => XS.ifNo X4.here hx rfl (hb hby d33_21) rfl ((if0 _ _).trans (feq (by decide)).1) w_k) ?_
  show Gd _ _ _ _ (T4.setTop (mkF m 24 #[.val (.ref b), .val (.int (44 : Int32))] []))
  refine Gd.go (fun _ w_k => XS.aloadN X4.here hx rfl (hb hby d33_24) rfl rfl w_k) ?_
  show Gd _ _ _ _ (T4.setTop (mkF m 25 #[.val (.ref b), .val (.int (44 : Int32))] [(.ref b)]))
  obtain ⟨T5, X5, e5, st5⟩ := getF X4 hx hZ hown (host := "") (Or.inl (hw _ (List.mem_of_getElem? (i := 83) rfl))) Via.refl e4 bV (g := (mkF m 25 #[.val (.ref b), .val (.int (44 : Int32))] [(.ref b)])) rfl rfl (hb hby d33_25)
  refine Gd.go (fun _ w_k => st5 _ w_k) ?_
  show Gd _ _ _ _ (T5.setTop (mkF m 28 #[.val (.ref b), .val (.int (44 : Int32))] [(.ref A)]))
  refine Gd.go (fun _ w_k => XS.aloadN X5.here hx rfl (hb hby d33_28) rfl rfl w_k) ?_
  show Gd _ _ _ _ (T5.setTop (mkF m 29 #[.val (.ref b), .val (.int (44 : Int32))] [(.ref b), (.ref A)]))
  refine Gd.go (fun _ w_k => XS.dup X5.here hx rfl (hb hby d33_29) rfl rfl w_k) ?_
  show Gd _ _ _ _ (T5.setTop (mkF m 30 #[.val (.ref b), .val (.int (44 : Int32))] [(.ref b), (.ref b), (.ref A)]))
  obtain ⟨T6, X6, e6, st6⟩ := getF X5 hx hZ hown (host := "") (Or.inl (hw _ (List.mem_of_getElem? (i := 110) rfl))) Via.refl e5 bN (g := (mkF m 30 #[.val (.ref b), .val (.int (44 : Int32))] [(.ref b), (.ref b), (.ref A)])) rfl rfl (hb hby d33_30)
  refine Gd.go (fun _ w_k => st6 _ w_k) ?_
  show Gd _ _ _ _ (T6.setTop (mkF m 33 #[.val (.ref b), .val (.int (44 : Int32))] [(.int (Int32.ofNat cnt)), (.ref b), (.ref A)]))
  refine Gd.go (fun _ w_k => XS.dupX1 X6.here hx rfl (hb hby d33_33) rfl rfl rfl w_k) ?_
  show Gd _ _ _ _ (T6.setTop (mkF m 34 #[.val (.ref b), .val (.int (44 : Int32))] [(.int (Int32.ofNat cnt)), (.ref b), (.int (Int32.ofNat cnt)), (.ref A)]))
  refine Gd.go (fun _ w_k => XS.iconst X6.here hx rfl (hb hby d33_34) w_k) ?_
  show Gd _ _ _ _ (T6.setTop (mkF m 35 #[.val (.ref b), .val (.int (44 : Int32))] [(.int (1 : Int32)), (.int (Int32.ofNat cnt)), (.ref b), (.int (Int32.ofNat cnt)), (.ref A)]))
  refine Gd.go (fun _ w_k => XS.iadd X6.here hx rfl (hb hby d33_35) rfl w_k) ?_
  show Gd _ _ _ _ (T6.setTop (mkF m 36 #[.val (.ref b), .val (.int (44 : Int32))] [(.int ((Int32.ofNat cnt) + (1 : Int32))), (.ref b), (.int (Int32.ofNat cnt)), (.ref A)]))
  rw [own_incN]
  show Gd _ _ _ _ (T6.setTop (mkF m 36 #[.val (.ref b), .val (.int (44 : Int32))] [(.int (Int32.ofNat (cnt + 1))), (.ref b), (.int (Int32.ofNat cnt)), (.ref A)]))
  obtain ⟨T7, h7, X7, e7, W7, st7⟩ := putF X6 hx hZ hown (host := "") (Or.inl (hw _ (List.mem_of_getElem? (i := 110) rfl))) Via.refl e6 bN bE (Or.inl (hw _ (List.mem_of_getElem? (i := 111) rfl))) (hw _ (List.mem_of_getElem? (i := 70) rfl)) (ty := .int) (by decide) rfl rfl (g := (mkF m 36 #[.val (.ref b), .val (.int (44 : Int32))] [(.int (Int32.ofNat (cnt + 1))), (.ref b), (.int (Int32.ofNat cnt)), (.ref A)])) rfl rfl (hb hby d33_36)
  refine Gd.go (fun _ w_k => st7 _ w_k) ?_
  have xF8 := bE.wr W7
  have xF9 := bV.other W7 (Or.inr (slot_ne (Or.inl (hw _ (List.mem_of_getElem? (i := 84) rfl))) (Or.inl (hw _ (List.mem_of_getElem? (i := 111) rfl))) (by decide) (t := (.array .byte)) (t' := .int) (by decide) (by decide)))
  have xF10 := bC.other W7 (Or.inr (slot_ne (Or.inl (hw _ (List.mem_of_getElem? (i := 86) rfl))) (Or.inl (hw _ (List.mem_of_getElem? (i := 111) rfl))) (by decide) (t := .byte) (t' := .int) (by decide) (by decide)))
  have xF11 := bN.same W7
  have xF12 := bA.other W7 (Ne.symm sn3)
  have xF13 := bX.wr W7
  have xN14 := Fr.snoc X7 N0 sn1
  have xO15 := Old.wr O0 W7 sn1
  have xK16 := Keep.wr K0 W7 (Or.inl (List.mem_cons_self ..))
  show Gd _ _ _ _ (T7.setTop (mkF m 39 #[.val (.ref b), .val (.int (44 : Int32))] [(.int (Int32.ofNat cnt)), (.ref A)]))
  refine Gd.go (fun _ w_k => XS.iloadN X7.here hx rfl (hb hby d33_39) rfl w_k) ?_
  show Gd _ _ _ _ (T7.setTop (mkF m 40 #[.val (.ref b), .val (.int (44 : Int32))] [(.int (44 : Int32)), (.int (Int32.ofNat cnt)), (.ref A)]))
  refine Gd.go (fun _ w_k => XS.i2b X7.here hx rfl (hb hby d33_40) rfl w_k) ?_
  show Gd _ _ _ _ (T7.setTop (mkF m 41 #[.val (.ref b), .val (.int (44 : Int32))] [(.int ((44 : Int32).toInt8.toInt32)), (.int (Int32.ofNat cnt)), (.ref A)]))
  rw [show ((44 : Int32).toInt8.toInt32) = Int32.ofNat 44 from by decide]
  show Gd _ _ _ _ (T7.setTop (mkF m 41 #[.val (.ref b), .val (.int (44 : Int32))] [(.int (Int32.ofNat 44)), (.int (Int32.ofNat cnt)), (.ref A)]))
  obtain ⟨T17, h17, X17, e17, W17, st17⟩ := own_stB X7 hx hZ e7 xF12 (j := (Int32.ofNat cnt)) (by rw [own_ofN (by omega)]; omega) (by rw [own_ofN (by omega)]; omega) (g := (mkF m 41 #[.val (.ref b), .val (.int (44 : Int32))] [(.int (Int32.ofNat 44)), (.int (Int32.ofNat cnt)), (.ref A)])) rfl rfl (hb hby d33_41)
  refine Gd.go (fun _ w_k => st17 _ w_k) ?_
  have xF18 := xF8.wr W17
  have xF19 := xF9.other W17 (Or.inl sn3)
  have xF20 := xF10.other W17 (Or.inl sn3)
  have xF21 := xF11.other W17 (Or.inl sn3)
  have xF22 := xF12.set W17
  have xF23 := xF13.wr W17
  have xN24 := Fr.snoc X17 xN14 sn2
  have xO25 := Old.wr xO15 W17 sn2
  have xK26 := Keep.wr xK16 W17 (Or.inl (List.mem_cons_of_mem _ (List.mem_singleton.mpr rfl)))
  show Gd _ _ _ _ (T17.setTop (mkF m 42 #[.val (.ref b), .val (.int (44 : Int32))] []))
  refine Gd.go (fun _ w_k => XS.goto X17.here hx rfl (pc0 := 42) (pc' := 75) rfl (hb hby d33_42) (by decide) (by decide) w_k) ?_
  show Gd _ _ _ _ (T17.setTop (mkF m 75 #[.val (.ref b), .val (.int (44 : Int32))] []))
  refine Gd.go (fun _ w_k => XS.aloadN X17.here hx rfl (hb hby d33_75) rfl rfl w_k) ?_
  show Gd _ _ _ _ (T17.setTop (mkF m 76 #[.val (.ref b), .val (.int (44 : Int32))] [(.ref b)]))
  refine own_retA X17 hx hret hlk rfl (hb hby d33_76) ?_ (by decide) (by decide)
  rw [e17]
  have xA := xF22
  rw [own_ofC (by omega), own_upd (by decide)] at xA
  exact ⟨rfl, xK26, ⟨xF18, xF19, xF20, xF21, xA, xF23, sn1, sn2, sn3, own_by_up sn4 (by decide)⟩, xO25, xN24⟩
theorem own_pn19 : plainFor (⟨"java/lang/StringBuilder", "append", "(C)Ljava/lang/StringBuilder;"⟩ : MethodName) = true := by first | exact plainFor_of_name (by first | (simp [plainName, overriddenIn, x]; done) | decide +kernel) | decide +kernel
theorem ef_32 (m : MethodId) (q0 : Addr) (q1 : Int32) : entryFrame m #[(.ref q0), (.int q1)] 2 = mkF m 0 #[.val (.ref q0), .val (.int q1)] [] := by first | (simp [entryFrame, mkF, argsToLocals, Value.category, maxLocals]; done) | rfl
theorem d32_0 : decode jdk_67_method_14_code 0 = .ok (.aload_n 0, 1) := by decide +kernel
theorem d32_1 : decode jdk_67_method_14_code 1 = .ok (.iload_n 1, 1) := by decide +kernel
theorem own_pd12 : parseMethodDescriptor "(C)Ljava/lang/AbstractStringBuilder;" = some ⟨[.char], some (.object "java/lang/AbstractStringBuilder")⟩ := by decide +kernel
theorem d32_2 : decode jdk_67_method_14_code 2 = .ok (.invokespecial 50, 3) := by decide +kernel
theorem d32_5 : decode jdk_67_method_14_code 5 = .ok (.pop, 1) := by decide +kernel
theorem d32_6 : decode jdk_67_method_14_code 6 = .ok (.aload_n 0, 1) := by decide +kernel
theorem d32_7 : decode jdk_67_method_14_code 7 = .ok (.areturn, 1) := by decide +kernel
set_option maxRecDepth 65536 in
set_option maxHeartbeats 40000000 in
theorem own_c32 (l : Launch) (Z : State) (a0 : Array Value) (hw : ∀ d ∈ tables_1, d.before a0 Z = true) (cs : Int32) (fv gv : Value) (d1 d2 : Addr) (G : own_G Z cs fv gv d1 d2) (h0 : Heap) (n0 : Nat) (O0 : Old Z n0 h0) (b A : Addr) (cap cnt : Nat) (g : Nat → Nat) (S : own_SB Z h0 b A n0 cap cnt g) (g3 : cnt < cap) :
    Con l Z (⟨"java/lang/StringBuilder", "append", "(C)Ljava/lang/StringBuilder;"⟩ : MethodName) jdk_67_method_14_code 2 (some (.object "java/lang/StringBuilder")) [] ({ frames := 2, cells := 0, slots := 0, locals := 27 } : Room) 0 0 #[(.ref b), (.int (44 : Int32))] h0 (fun r h L => r = some (.ref b) ∧ Keep h0 h [b, A] ∧ own_SB Z h b A n0 cap (cnt + 1) (own_up g cnt 44) ∧ Old Z n0 h ∧ Fr n0 L) := by
  refine Con.of own_pn19 ?_
  intro pg ev s_ m bl mt cd s₁ hx hby hml hown hnm hret hlk hZ X0 e0
  rw [ef_32]
  show Gd _ _ _ _ (s₁.setTop (mkF m 0 #[.val (.ref b), .val (.int (44 : Int32))] []))
  have S' := S
  obtain ⟨bE, bV, bC, bN, bA, bX, sn1, sn2, sn3, sn4⟩ := S'
  refine Gd.go (fun _ w_k => XS.aloadN X0.here hx rfl (hb hby d32_0) rfl rfl w_k) ?_
  show Gd _ _ _ _ (s₁.setTop (mkF m 1 #[.val (.ref b), .val (.int (44 : Int32))] [(.ref b)]))
  refine Gd.go (fun _ w_k => XS.iloadN X0.here hx rfl (hb hby d32_1) rfl w_k) ?_
  show Gd _ _ _ _ (s₁.setTop (mkF m 2 #[.val (.ref b), .val (.int (44 : Int32))] [(.int (44 : Int32)), (.ref b)]))
  obtain ⟨v1, T1, L1, X1, hQ1, st1⟩ := own_callU X0 hx hZ (y := (⟨"java/lang/AbstractStringBuilder", "append", "(C)Ljava/lang/AbstractStringBuilder;"⟩ : MethodName)) (y' := (⟨"java/lang/AbstractStringBuilder", "ensureCapacityInternal", "(I)V"⟩ : MethodName)) hown (by decide) (hw _ (List.mem_of_getElem? (i := 210) rfl)) (hw _ (List.mem_of_getElem? (i := 115) rfl)) rfl (hw _ (List.mem_of_getElem? (i := 94) rfl)) (hw _ (List.mem_of_getElem? (i := 211) rfl)) (hw _ (List.mem_of_getElem? (i := 79) rfl)) (hw _ (List.mem_of_getElem? (i := 213) rfl)) (by decide) bE (W := 0) (own_c33 l Z a0 hw cs fv gv d1 d2 G h0 n0 O0 b A cap cnt g S g3) rfl rfl e0 (by decide) (by decide) (g := (mkF m 2 #[.val (.ref b), .val (.int (44 : Int32))] [(.int (44 : Int32)), (.ref b)])) rfl (by rw [hml]; rfl) (argsL := [(.int (44 : Int32))]) (rest := []) (lenOf own_pd12 rfl) rfl (Nat.le_of_eq rfl) (hb hby d32_2) rfl (by decide) (by decide)
  obtain ⟨rfl, K9, S9, O9, N9⟩ := hQ1
  refine Gd.go (fun _ w_k => st1 _ w_k) ?_
  show Gd _ _ _ _ (T1.setTop (mkF m 5 #[.val (.ref b), .val (.int (44 : Int32))] [(.ref b)]))
  refine Gd.go (fun _ w_k => XS.pop X1.here hx rfl (hb hby d32_5) rfl rfl w_k) ?_
  show Gd _ _ _ _ (T1.setTop (mkF m 6 #[.val (.ref b), .val (.int (44 : Int32))] []))
  refine Gd.go (fun _ w_k => XS.aloadN X1.here hx rfl (hb hby d32_6) rfl rfl w_k) ?_
  show Gd _ _ _ _ (T1.setTop (mkF m 7 #[.val (.ref b), .val (.int (44 : Int32))] [(.ref b)]))
  refine own_retA X1 hx hret hlk rfl (hb hby d32_7) ?_ (by decide) (by decide)
  exact ⟨rfl, K9, S9, O9, by simpa using N9⟩
theorem own_pn20 : plainFor (⟨"java/lang/AbstractStringBuilder", "<init>", "(I)V"⟩ : MethodName) = true := by first | exact plainFor_of_name (by first | (simp [plainName, overriddenIn, x]; done) | decide +kernel) | decide +kernel
theorem ef_11 (m : MethodId) (q0 : Addr) (q1 : Int32) : entryFrame m #[(.ref q0), (.int q1)] 2 = mkF m 0 #[.val (.ref q0), .val (.int q1)] [] := by first | (simp [entryFrame, mkF, argsToLocals, Value.category, maxLocals]; done) | rfl
theorem d11_0 : decode jdk_68_method_2_code 0 = .ok (.aload_n 0, 1) := by decide +kernel
theorem d11_1 : decode jdk_68_method_2_code 1 = .ok (.invokespecial 3, 3) := by decide +kernel
theorem d11_4 : decode jdk_68_method_2_code 4 = .ok (.getstatic 18, 3) := by decide +kernel
theorem d11_7 : decode jdk_68_method_2_code 7 = .ok (.ifCond .eq 18, 3) := by decide +kernel
theorem d11_10 : decode jdk_68_method_2_code 10 = .ok (.aload_n 0, 1) := by decide +kernel
theorem d11_11 : decode jdk_68_method_2_code 11 = .ok (.iload_n 1, 1) := by decide +kernel
theorem d11_12 : decode jdk_68_method_2_code 12 = .ok (.newarray .byte, 2) := by decide +kernel
theorem d11_14 : decode jdk_68_method_2_code 14 = .ok (.putfield 15, 3) := by decide +kernel
theorem d11_17 : decode jdk_68_method_2_code 17 = .ok (.aload_n 0, 1) := by decide +kernel
theorem d11_18 : decode jdk_68_method_2_code 18 = .ok (.iconst 0, 1) := by decide +kernel
theorem d11_19 : decode jdk_68_method_2_code 19 = .ok (.putfield 22, 3) := by decide +kernel
theorem d11_22 : decode jdk_68_method_2_code 22 = .ok (.goto 16, 3) := by decide +kernel
theorem d11_38 : decode jdk_68_method_2_code 38 = .ok (.return_, 1) := by decide +kernel
set_option maxRecDepth 65536 in
set_option maxHeartbeats 40000000 in
theorem own_c11 (l : Launch) (Z : State) (a0 : Array Value) (hw : ∀ d ∈ tables_1, d.before a0 Z = true) (cs : Int32) (fv gv : Value) (d1 d2 : Addr) (G : own_G Z cs fv gv d1 d2) (h0 : Heap) (n0 : Nat) (O0 : Old Z n0 h0) (Z0 : n0 ≤ h0.size) (b : Addr) (gb : n0 ≤ b) (E0 : Exa Z h0 b "java/lang/StringBuilder") (F1 : Fld Z h0 b "java/lang/AbstractStringBuilder" "value" "[B" .null) (F2 : Fld Z h0 b "java/lang/AbstractStringBuilder" "coder" "B" (.int (0 : Int32))) (F3 : Fld Z h0 b "java/lang/AbstractStringBuilder" "count" "I" (.int (0 : Int32))) (cap : Nat) (hcap : cap ≤ 25) :
    Con l Z (⟨"java/lang/AbstractStringBuilder", "<init>", "(I)V"⟩ : MethodName) jdk_68_method_2_code 2 none [] ({ frames := 1, cells := 1, slots := 25, locals := 12 } : Room) 1 25 #[(.ref b), (.int (Int32.ofNat cap))] h0 (fun r h L => r = none ∧ ∃ A, h0.size ≤ A ∧ Keep h0 h [b] ∧ own_SB Z h b A n0 cap 0 (fun _ => 0) ∧ Old Z n0 h ∧ Fr n0 L) := by
  refine Con.of own_pn20 ?_
  intro pg ev s_ m bl mt cd s₁ hx hby hml hown hnm hret hlk hZ X0 e0
  rw [ef_11]
  show Gd _ _ _ _ (s₁.setTop (mkF m 0 #[.val (.ref b), .val (.int (Int32.ofNat cap))] []))
  have N0 := Fr.nil n0
  have K0 := Keep.refl h0 [b]
  have ec1 := own_ofN (n := cap) (by omega)
  have ec2 := own_ofC (n := cap) (by omega)
  have z0 : (0 : Int32).toInt = 0 := rfl
  refine Gd.go (fun _ w_k => XS.aloadN X0.here hx rfl (hb hby d11_0) rfl rfl w_k) ?_
  show Gd _ _ _ _ (s₁.setTop (mkF m 1 #[.val (.ref b), .val (.int (Int32.ofNat cap))] [(.ref b)]))
  obtain ⟨T1, X1, e1, st1⟩ := initO X0 hx hZ hown (hw _ (List.mem_of_getElem? (i := 81) rfl)) (hw _ (List.mem_of_getElem? (i := 52) rfl)) (hw _ (List.mem_of_getElem? (i := 53) rfl)) e0 (g := (mkF m 1 #[.val (.ref b), .val (.int (Int32.ofNat cap))] [(.ref b)])) rfl (by rw [hml]; rfl) rfl (hb hby d11_1) (by decide) (W := 0) (Nat.le_of_eq rfl) (by decide)
  refine Gd.go (fun _ w_k => st1 _ w_k) ?_
  show Gd _ _ _ _ (T1.setTop (mkF m 4 #[.val (.ref b), .val (.int (Int32.ofNat cap))] []))
  obtain ⟨T2, X2, e2, st2⟩ := getS2 X1 hx hZ hown (host := "") (Or.inl (hw _ (List.mem_of_getElem? (i := 82) rfl))) Via.refl e1 (G.2.1.ext O0.2) (g := (mkF m 4 #[.val (.ref b), .val (.int (Int32.ofNat cap))] [])) rfl (hb hby d11_4)
  refine Gd.go (fun _ w_k => st2 _ w_k) ?_
  show Gd _ _ _ _ (T2.setTop (mkF m 7 #[.val (.ref b), .val (.int (Int32.ofNat cap))] [(.int cs)]))
  refine Gd.go (fun _ w_k => XS.ifNo X2.here hx rfl (hb hby d11_7) rfl ((if0 _ _).trans (feq G.1).1) w_k) ?_
  show Gd _ _ _ _ (T2.setTop (mkF m 10 #[.val (.ref b), .val (.int (Int32.ofNat cap))] []))
  refine Gd.go (fun _ w_k => XS.aloadN X2.here hx rfl (hb hby d11_10) rfl rfl w_k) ?_
  show Gd _ _ _ _ (T2.setTop (mkF m 11 #[.val (.ref b), .val (.int (Int32.ofNat cap))] [(.ref b)]))
  refine Gd.go (fun _ w_k => XS.iloadN X2.here hx rfl (hb hby d11_11) rfl w_k) ?_
  show Gd _ _ _ _ (T2.setTop (mkF m 12 #[.val (.ref b), .val (.int (Int32.ofNat cap))] [(.int (Int32.ofNat cap)), (.ref b)]))
  obtain ⟨T3, h3, k3, X3, e3, E3, A3, Ax3, st3⟩ := newPE X2 hx hZ (hw _ (List.mem_of_getElem? (i := 38) rfl)) e2 (g := (mkF m 12 #[.val (.ref b), .val (.int (Int32.ofNat cap))] [(.int (Int32.ofNat cap)), (.ref b)])) rfl (hb hby d11_12) rfl (by rw [Int32.lt_iff_toInt_lt]; omega) (cap := 25) (by omega) (by decide) (by decide) (by decide) (ad := "[B") (by decide)
  obtain ⟨b3, g3⟩ : ∃ z, z = h0.size := ⟨_, rfl⟩
  rw [← g3] at A3 st3 Ax3
  have ne_b_b3 : b ≠ b3 := fun q => Nat.lt_irrefl _ (Nat.lt_of_lt_of_le E0.lt (Nat.le_of_eq (q.trans g3).symm))
  have n0_b3 : n0 ≤ b3 := Nat.le_trans Z0 (Nat.le_of_eq g3.symm)
  have kn_b3 : h0.size ≤ b3 := Nat.le_trans K0.1 (Nat.le_of_eq g3.symm)
  have xF4 := E0.ext E3
  have xF5 := F1.ext E3
  have xF6 := F2.ext E3
  have xF7 := F3.ext E3
  have xO8 := Old.ext O0 E3
  have xZs9 := Nat.le_trans Z0 E3.1
  have xK10 := Keep.ext K0 E3
  have xF11 : ArF Z h3 b3 .byte ((Int32.ofNat cap)).toNatClampNeg (fun _ => (.int (0 : Int32))) := own_new (h := h0) A3 (by rw [Int32.lt_iff_toInt_lt]; omega)
  refine Gd.go (fun _ w_k => st3 _ w_k) ?_
  show Gd _ _ _ _ (T3.setTop (mkF m 14 #[.val (.ref b), .val (.int (Int32.ofNat cap))] [(.ref b3), (.ref b)]))
  obtain ⟨T12, h12, X12, e12, W12, st12⟩ := putF X3 hx hZ hown (host := "") (Or.inl (hw _ (List.mem_of_getElem? (i := 83) rfl))) Via.refl e3 xF5 xF4 (Or.inl (hw _ (List.mem_of_getElem? (i := 84) rfl))) (hw _ (List.mem_of_getElem? (i := 70) rfl)) (ty := (.array .byte)) (by decide) rfl rfl (g := (mkF m 14 #[.val (.ref b), .val (.int (Int32.ofNat cap))] [(.ref b3), (.ref b)])) rfl rfl (hb hby d11_14)
  refine Gd.go (fun _ w_k => st12 _ w_k) ?_
  have xF13 := xF4.wr W12
  have xF14 := xF5.same W12
  have xF15 := xF6.other W12 (Or.inr (slot_ne (Or.inl (hw _ (List.mem_of_getElem? (i := 86) rfl))) (Or.inl (hw _ (List.mem_of_getElem? (i := 84) rfl))) (by decide) (t := .byte) (t' := (.array .byte)) (by decide) (by decide)))
  have xF16 := xF7.other W12 (Or.inr (slot_ne (Or.inl (hw _ (List.mem_of_getElem? (i := 111) rfl))) (Or.inl (hw _ (List.mem_of_getElem? (i := 84) rfl))) (by decide) (t := .int) (t' := (.array .byte)) (by decide) (by decide)))
  have xF17 := xF11.other W12 (Ne.symm ne_b_b3)
  have xF18 := Ax3.wr W12
  have xN19 := Fr.snoc X12 N0 gb
  have xO20 := Old.wr xO8 W12 gb
  have xZs21 := Nat.le_trans xZs9 (Keep.of_wr W12).1
  have xK22 := Keep.wr xK10 W12 (Or.inl (List.mem_singleton.mpr rfl))
  show Gd _ _ _ _ (T12.setTop (mkF m 17 #[.val (.ref b), .val (.int (Int32.ofNat cap))] []))
  refine Gd.go (fun _ w_k => XS.aloadN X12.here hx rfl (hb hby d11_17) rfl rfl w_k) ?_
  show Gd _ _ _ _ (T12.setTop (mkF m 18 #[.val (.ref b), .val (.int (Int32.ofNat cap))] [(.ref b)]))
  refine Gd.go (fun _ w_k => XS.iconst X12.here hx rfl (hb hby d11_18) w_k) ?_
  show Gd _ _ _ _ (T12.setTop (mkF m 19 #[.val (.ref b), .val (.int (Int32.ofNat cap))] [(.int (0 : Int32)), (.ref b)]))
  obtain ⟨T23, h23, X23, e23, W23, st23⟩ := putF X12 hx hZ hown (host := "") (Or.inl (hw _ (List.mem_of_getElem? (i := 85) rfl))) Via.refl e12 xF15 xF13 (Or.inl (hw _ (List.mem_of_getElem? (i := 86) rfl))) (hw _ (List.mem_of_getElem? (i := 70) rfl)) (ty := .byte) (by decide) rfl rfl (g := (mkF m 19 #[.val (.ref b), .val (.int (Int32.ofNat cap))] [(.int (0 : Int32)), (.ref b)])) rfl rfl (hb hby d11_19)
  refine Gd.go (fun _ w_k => st23 _ w_k) ?_
  have xF24 := xF13.wr W23
  have xF25 := xF14.other W23 (Or.inr (slot_ne (Or.inl (hw _ (List.mem_of_getElem? (i := 84) rfl))) (Or.inl (hw _ (List.mem_of_getElem? (i := 86) rfl))) (by decide) (t := (.array .byte)) (t' := .byte) (by decide) (by decide)))
  have xF26 := xF15.same W23
  have xF27 := xF16.other W23 (Or.inr (slot_ne (Or.inl (hw _ (List.mem_of_getElem? (i := 111) rfl))) (Or.inl (hw _ (List.mem_of_getElem? (i := 86) rfl))) (by decide) (t := .int) (t' := .byte) (by decide) (by decide)))
  have xF28 := xF17.other W23 (Ne.symm ne_b_b3)
  have xF29 := xF18.wr W23
  have xN30 := Fr.snoc X23 xN19 gb
  have xO31 := Old.wr xO20 W23 gb
  have xZs32 := Nat.le_trans xZs21 (Keep.of_wr W23).1
  have xK33 := Keep.wr xK22 W23 (Or.inl (List.mem_singleton.mpr rfl))
  show Gd _ _ _ _ (T23.setTop (mkF m 22 #[.val (.ref b), .val (.int (Int32.ofNat cap))] []))
  refine Gd.go (fun _ w_k => XS.goto X23.here hx rfl (pc0 := 22) (pc' := 38) rfl (hb hby d11_22) (by decide) (by decide) w_k) ?_
  show Gd _ _ _ _ (T23.setTop (mkF m 38 #[.val (.ref b), .val (.int (Int32.ofNat cap))] []))
  refine own_retV X23 hx hret hlk (hb hby d11_38) ?_ (by decide) (by decide)
  rw [e23]
  have xA := xF28
  rw [ec2] at xA
  exact ⟨rfl, b3, kn_b3, xK33, ⟨xF24, xF25, xF26, xF27, xA, xF29, gb, n0_b3, ne_b_b3, fun _ => (by show 0 < 128; decide)⟩, xO31, xN30⟩
theorem own_pn21 : plainFor (⟨"java/lang/StringBuilder", "<init>", "(I)V"⟩ : MethodName) = true := by first | exact plainFor_of_name (by first | (simp [plainName, overriddenIn, x]; done) | decide +kernel) | decide +kernel
theorem ef_10 (m : MethodId) (q0 : Addr) (q1 : Int32) : entryFrame m #[(.ref q0), (.int q1)] 2 = mkF m 0 #[.val (.ref q0), .val (.int q1)] [] := by first | (simp [entryFrame, mkF, argsToLocals, Value.category, maxLocals]; done) | rfl
theorem d10_0 : decode jdk_67_method_2_code 0 = .ok (.aload_n 0, 1) := by decide +kernel
theorem d10_1 : decode jdk_67_method_2_code 1 = .ok (.iload_n 1, 1) := by decide +kernel
theorem d10_2 : decode jdk_67_method_2_code 2 = .ok (.invokespecial 1, 3) := by decide +kernel
theorem d10_5 : decode jdk_67_method_2_code 5 = .ok (.return_, 1) := by decide +kernel
set_option maxRecDepth 65536 in
set_option maxHeartbeats 40000000 in
theorem own_c10 (l : Launch) (Z : State) (a0 : Array Value) (hw : ∀ d ∈ tables_1, d.before a0 Z = true) (cs : Int32) (fv gv : Value) (d1 d2 : Addr) (G : own_G Z cs fv gv d1 d2) (h0 : Heap) (n0 : Nat) (O0 : Old Z n0 h0) (Z0 : n0 ≤ h0.size) (b : Addr) (gb : n0 ≤ b) (E0 : Exa Z h0 b "java/lang/StringBuilder") (F1 : Fld Z h0 b "java/lang/AbstractStringBuilder" "value" "[B" .null) (F2 : Fld Z h0 b "java/lang/AbstractStringBuilder" "coder" "B" (.int (0 : Int32))) (F3 : Fld Z h0 b "java/lang/AbstractStringBuilder" "count" "I" (.int (0 : Int32))) (cap : Nat) (hcap : cap ≤ 25) :
    Con l Z (⟨"java/lang/StringBuilder", "<init>", "(I)V"⟩ : MethodName) jdk_67_method_2_code 2 none [] ({ frames := 2, cells := 1, slots := 25, locals := 25 } : Room) 1 25 #[(.ref b), (.int (Int32.ofNat cap))] h0 (fun r h L => r = none ∧ ∃ A, h0.size ≤ A ∧ Keep h0 h [b] ∧ own_SB Z h b A n0 cap 0 (fun _ => 0) ∧ Old Z n0 h ∧ Fr n0 L) := by
  refine Con.of own_pn21 ?_
  intro pg ev s_ m bl mt cd s₁ hx hby hml hown hnm hret hlk hZ X0 e0
  rw [ef_10]
  show Gd _ _ _ _ (s₁.setTop (mkF m 0 #[.val (.ref b), .val (.int (Int32.ofNat cap))] []))
  refine Gd.go (fun _ w_k => XS.aloadN X0.here hx rfl (hb hby d10_0) rfl rfl w_k) ?_
  show Gd _ _ _ _ (s₁.setTop (mkF m 1 #[.val (.ref b), .val (.int (Int32.ofNat cap))] [(.ref b)]))
  refine Gd.go (fun _ w_k => XS.iloadN X0.here hx rfl (hb hby d10_1) rfl w_k) ?_
  show Gd _ _ _ _ (s₁.setTop (mkF m 2 #[.val (.ref b), .val (.int (Int32.ofNat cap))] [(.int (Int32.ofNat cap)), (.ref b)]))
  obtain ⟨v1, T1, L1, X1, hQ1, st1⟩ := own_callI X0 hx hZ (y := (⟨"java/lang/AbstractStringBuilder", "<init>", "(I)V"⟩ : MethodName)) rfl hown (hw _ (List.mem_of_getElem? (i := 75) rfl)) (hw _ (List.mem_of_getElem? (i := 76) rfl)) (hw _ (List.mem_of_getElem? (i := 79) rfl)) (hw _ (List.mem_of_getElem? (i := 80) rfl)) (by decide) (b := b) (W := 0) (own_c11 l Z a0 hw cs fv gv d1 d2 G h0 n0 O0 Z0 b gb E0 F1 F2 F3 cap hcap) rfl rfl e0 (by decide) (by decide) (g := (mkF m 2 #[.val (.ref b), .val (.int (Int32.ofNat cap))] [(.int (Int32.ofNat cap)), (.ref b)])) rfl (by rw [hml]; rfl) (argsL := [(.int (Int32.ofNat cap))]) (rest := []) (lenOf own_pd8 rfl) rfl (Nat.le_of_eq rfl) (hb hby d10_2) rfl (by decide) (by decide)
  obtain ⟨rfl, A, q9, K9, S9, O9, N9⟩ := hQ1
  refine Gd.go (fun _ w_k => st1 _ w_k) ?_
  show Gd _ _ _ _ (T1.setTop (mkF m 5 #[.val (.ref b), .val (.int (Int32.ofNat cap))] []))
  refine own_retV X1 hx hret hlk (hb hby d10_5) ?_ (by decide) (by decide)
  exact ⟨rfl, A, q9, K9, S9, O9, by simpa using N9⟩
theorem own_pn22 : plainFor (⟨"java/lang/Math", "min", "(II)I"⟩ : MethodName) = true := by first | exact plainFor_of_name (by first | (simp [plainName, overriddenIn, x]; done) | decide +kernel) | decide +kernel
theorem ef_37 (m : MethodId) (q0 : Int32) (q1 : Int32) : entryFrame m #[(.int q0), (.int q1)] 2 = mkF m 0 #[.val (.int q0), .val (.int q1)] [] := by first | (simp [entryFrame, mkF, argsToLocals, Value.category, maxLocals]; done) | rfl
theorem d37_0 : decode jdk_29_method_69_code 0 = .ok (.iload_n 0, 1) := by decide +kernel
theorem d37_1 : decode jdk_29_method_69_code 1 = .ok (.iload_n 1, 1) := by decide +kernel
theorem d37_2 : decode jdk_29_method_69_code 2 = .ok (.if_icmp .gt 7, 3) := by decide +kernel
theorem d37_9 : decode jdk_29_method_69_code 9 = .ok (.iload_n 1, 1) := by decide +kernel
theorem d37_10 : decode jdk_29_method_69_code 10 = .ok (.ireturn, 1) := by decide +kernel
theorem d37_5 : decode jdk_29_method_69_code 5 = .ok (.iload_n 0, 1) := by decide +kernel
theorem d37_6 : decode jdk_29_method_69_code 6 = .ok (.goto 4, 3) := by decide +kernel
set_option maxRecDepth 65536 in
set_option maxHeartbeats 40000000 in
theorem own_c37 (l : Launch) (Z : State) (a0 : Array Value) (hw : ∀ d ∈ tables_1, d.before a0 Z = true) (u v : Int32) (h0 : Heap) :
    Con l Z (⟨"java/lang/Math", "min", "(II)I"⟩ : MethodName) jdk_29_method_69_code 2 (some .int) [] ({ frames := 0, cells := 0, slots := 0, locals := 0 } : Room) 0 0 #[(.int u), (.int v)] h0 (fun r h L => r = some (.int (if v < u then v else u)) ∧ h = h0 ∧ L = []) := by
  refine Con.of own_pn22 ?_
  intro pg ev s_ m bl mt cd s₁ hx hby hml hown hnm hret hlk hZ X0 e0
  rw [ef_37]
  show Gd _ _ _ _ (s₁.setTop (mkF m 0 #[.val (.int u), .val (.int v)] []))
  refine Gd.go (fun _ w_k => XS.iloadN X0.here hx rfl (hb hby d37_0) rfl w_k) ?_
  show Gd _ _ _ _ (s₁.setTop (mkF m 1 #[.val (.int u), .val (.int v)] [(.int u)]))
  refine Gd.go (fun _ w_k => XS.iloadN X0.here hx rfl (hb hby d37_1) rfl w_k) ?_
  show Gd _ _ _ _ (s₁.setTop (mkF m 2 #[.val (.int u), .val (.int v)] [(.int v), (.int u)]))
  by_cases hc1 : v < u
  · refine Gd.go (fun _ w_k => XS.icmpYes X0.here hx rfl (pc0 := 2) (pc' := 9) rfl (hb hby d37_2) rfl (tlt hc1).2.2.1 (by decide) (by decide) w_k) ?_
    show Gd _ _ _ _ (s₁.setTop (mkF m 9 #[.val (.int u), .val (.int v)] []))
    refine Gd.go (fun _ w_k => XS.iloadN X0.here hx rfl (hb hby d37_9) rfl w_k) ?_
    show Gd _ _ _ _ (s₁.setTop (mkF m 10 #[.val (.int u), .val (.int v)] [(.int v)]))
    refine own_retI X0 hx hret hlk (hb hby d37_10) ?_ (by decide) (by decide)
    exact ⟨by rw [if_pos hc1], e0, rfl⟩
  · refine Gd.go (fun _ w_k => XS.icmpNo X0.here hx rfl (hb hby d37_2) rfl (flt hc1).2.2.1 w_k) ?_
    show Gd _ _ _ _ (s₁.setTop (mkF m 5 #[.val (.int u), .val (.int v)] []))
    refine Gd.go (fun _ w_k => XS.iloadN X0.here hx rfl (hb hby d37_5) rfl w_k) ?_
    show Gd _ _ _ _ (s₁.setTop (mkF m 6 #[.val (.int u), .val (.int v)] [(.int u)]))
    refine Gd.go (fun _ w_k => XS.goto X0.here hx rfl (pc0 := 6) (pc' := 10) rfl (hb hby d37_6) (by decide) (by decide) w_k) ?_
    show Gd _ _ _ _ (s₁.setTop (mkF m 10 #[.val (.int u), .val (.int v)] [(.int u)]))
    refine own_retI X0 hx hret hlk (hb hby d37_10) ?_ (by decide) (by decide)
    exact ⟨by rw [if_neg hc1], e0, rfl⟩
theorem own_pn23 : plainFor (⟨"java/util/Arrays", "checkLength", "(II)V"⟩ : MethodName) = true := by first | exact plainFor_of_name (by first | (simp [plainName, overriddenIn, x]; done) | decide +kernel) | decide +kernel
theorem ef_36 (m : MethodId) (q0 : Int32) (q1 : Int32) : entryFrame m #[(.int q0), (.int q1)] 2 = mkF m 0 #[.val (.int q0), .val (.int q1)] [] := by first | (simp [entryFrame, mkF, argsToLocals, Value.category, maxLocals]; done) | rfl
theorem d36_0 : decode jdk_65_method_131_code 0 = .ok (.iload_n 1, 1) := by decide +kernel
theorem d36_1 : decode jdk_65_method_131_code 1 = .ok (.iload_n 0, 1) := by decide +kernel
theorem d36_2 : decode jdk_65_method_131_code 2 = .ok (.if_icmp .ge 35, 3) := by decide +kernel
theorem d36_37 : decode jdk_65_method_131_code 37 = .ok (.return_, 1) := by decide +kernel
set_option maxRecDepth 65536 in
set_option maxHeartbeats 40000000 in
theorem own_c36 (l : Launch) (Z : State) (a0 : Array Value) (hw : ∀ d ∈ tables_1, d.before a0 Z = true) (k : Nat) (hk : k < 2 ^ 31) (h0 : Heap) :
    Con l Z (⟨"java/util/Arrays", "checkLength", "(II)V"⟩ : MethodName) jdk_65_method_131_code 2 none [] ({ frames := 0, cells := 0, slots := 0, locals := 0 } : Room) 0 0 #[(.int (0 : Int32)), (.int (Int32.ofNat k))] h0 (fun r h L => r = none ∧ h = h0 ∧ L = []) := by
  refine Con.of own_pn23 ?_
  intro pg ev s_ m bl mt cd s₁ hx hby hml hown hnm hret hlk hZ X0 e0
  rw [ef_36]
  show Gd _ _ _ _ (s₁.setTop (mkF m 0 #[.val (.int (0 : Int32)), .val (.int (Int32.ofNat k))] []))
  have z0 : (0 : Int32).toInt = 0 := rfl
  have ec1 := own_ofN hk
  refine Gd.go (fun _ w_k => XS.iloadN X0.here hx rfl (hb hby d36_0) rfl w_k) ?_
  show Gd _ _ _ _ (s₁.setTop (mkF m 1 #[.val (.int (0 : Int32)), .val (.int (Int32.ofNat k))] [(.int (Int32.ofNat k))]))
  refine Gd.go (fun _ w_k => XS.iloadN X0.here hx rfl (hb hby d36_1) rfl w_k) ?_
  show Gd _ _ _ _ (s₁.setTop (mkF m 2 #[.val (.int (0 : Int32)), .val (.int (Int32.ofNat k))] [(.int (0 : Int32)), (.int (Int32.ofNat k))]))
  refine Gd.go (fun _ w_k => XS.icmpYes X0.here hx rfl (pc0 := 2) (pc' := 37) rfl (hb hby d36_2) rfl (flt (by rw [Int32.lt_iff_toInt_lt]; omega)).2.1 (by decide) (by decide) w_k) ?_
  show Gd _ _ _ _ (s₁.setTop (mkF m 37 #[.val (.int (0 : Int32)), .val (.int (Int32.ofNat k))] []))
  refine own_retV X0 hx hret hlk (hb hby d36_37) ?_ (by decide) (by decide)
  exact ⟨rfl, e0, rfl⟩
theorem own_pn24 : plainFor (⟨"java/util/Arrays", "copyOfRangeByte", "([BII)[B"⟩ : MethodName) = true := by first | exact plainFor_of_name (by first | (simp [plainName, overriddenIn, x]; done) | decide +kernel) | decide +kernel
theorem ef_35 (m : MethodId) (q0 : Addr) (q1 : Int32) (q2 : Int32) : entryFrame m #[(.ref q0), (.int q1), (.int q2)] 5 = mkF m 0 #[.val (.ref q0), .val (.int q1), .val (.int q2), .unset, .unset] [] := by first | (simp [entryFrame, mkF, argsToLocals, Value.category, maxLocals]; done) | rfl
theorem d35_0 : decode jdk_65_method_133_code 0 = .ok (.iload_n 1, 1) := by decide +kernel
theorem d35_1 : decode jdk_65_method_133_code 1 = .ok (.iload_n 2, 1) := by decide +kernel
theorem d35_2 : decode jdk_65_method_133_code 2 = .ok (.invokestatic 343, 3) := by decide +kernel
theorem d35_5 : decode jdk_65_method_133_code 5 = .ok (.iload_n 2, 1) := by decide +kernel
theorem d35_6 : decode jdk_65_method_133_code 6 = .ok (.iload_n 1, 1) := by decide +kernel
theorem d35_7 : decode jdk_65_method_133_code 7 = .ok (.isub, 1) := by decide +kernel
theorem d35_8 : decode jdk_65_method_133_code 8 = .ok (.istore_n 3, 1) := by decide +kernel
theorem d35_9 : decode jdk_65_method_133_code 9 = .ok (.iload_n 3, 1) := by decide +kernel
theorem d35_10 : decode jdk_65_method_133_code 10 = .ok (.newarray .byte, 2) := by decide +kernel
theorem d35_12 : decode jdk_65_method_133_code 12 = .ok (.astore 4, 2) := by decide +kernel
theorem d35_14 : decode jdk_65_method_133_code 14 = .ok (.aload_n 0, 1) := by decide +kernel
theorem d35_15 : decode jdk_65_method_133_code 15 = .ok (.iload_n 1, 1) := by decide +kernel
theorem d35_16 : decode jdk_65_method_133_code 16 = .ok (.aload 4, 2) := by decide +kernel
theorem d35_18 : decode jdk_65_method_133_code 18 = .ok (.iconst 0, 1) := by decide +kernel
theorem d35_19 : decode jdk_65_method_133_code 19 = .ok (.aload_n 0, 1) := by decide +kernel
theorem d35_20 : decode jdk_65_method_133_code 20 = .ok (.arraylength, 1) := by decide +kernel
theorem d35_21 : decode jdk_65_method_133_code 21 = .ok (.iload_n 1, 1) := by decide +kernel
theorem d35_22 : decode jdk_65_method_133_code 22 = .ok (.isub, 1) := by decide +kernel
theorem d35_23 : decode jdk_65_method_133_code 23 = .ok (.iload_n 3, 1) := by decide +kernel
theorem own_pd13 : parseMethodDescriptor "(II)I" = some ⟨[.int, .int], some .int⟩ := by decide +kernel
theorem d35_24 : decode jdk_65_method_133_code 24 = .ok (.invokestatic 304, 3) := by decide +kernel
theorem d35_27 : decode jdk_65_method_133_code 27 = .ok (.invokestatic 150, 3) := by decide +kernel
theorem d35_30 : decode jdk_65_method_133_code 30 = .ok (.aload 4, 2) := by decide +kernel
theorem d35_32 : decode jdk_65_method_133_code 32 = .ok (.areturn, 1) := by decide +kernel
set_option maxRecDepth 65536 in
set_option maxHeartbeats 40000000 in
theorem own_c35 (l : Launch) (Z : State) (a0 : Array Value) (hw : ∀ d ∈ tables_1, d.before a0 Z = true) (cs : Int32) (fv gv : Value) (d1 d2 : Addr) (G : own_G Z cs fv gv d1 d2) (h0 : Heap) (n0 : Nat) (O0 : Old Z n0 h0) (Z0 : n0 ≤ h0.size) (A : Addr) (cap k : Nat) (g : Nat → Nat) (A0 : ArF Z h0 A .byte cap (own_iv g)) (gX : Exa Z h0 A "[B") (fb : own_by g) (hk : k ≤ cap) (hk2 : k ≤ 25) :
    Con l Z (⟨"java/util/Arrays", "copyOfRangeByte", "([BII)[B"⟩ : MethodName) jdk_65_method_133_code 5 (some (.array .byte)) [] ({ frames := 1, cells := 1, slots := 25, locals := 40 } : Room) 1 25 #[(.ref A), (.int (0 : Int32)), (.int (Int32.ofNat k))] h0 (fun r h L => ∃ W, r = some (.ref W) ∧ h0.size ≤ W ∧ Keep h0 h [] ∧ ArF Z h W .byte k (own_iv g) ∧ Old Z n0 h ∧ Fr n0 L) := by
  refine Con.of own_pn24 ?_
  intro pg ev s_ m bl mt cd s₁ hx hby hml hown hnm hret hlk hZ X0 e0
  rw [ef_35]
  show Gd _ _ _ _ (s₁.setTop (mkF m 0 #[.val (.ref A), .val (.int (0 : Int32)), .val (.int (Int32.ofNat k)), .unset, .unset] []))
  have N0 := Fr.nil n0
  have K0 := Keep.refl h0 []
  have nA := A0.n31
  have ec1 := own_ofN (n := k) (by omega)
  have ec2 := own_ofC (n := k) (by omega)
  have ec3 := own_ofN nA
  have z0 : (0 : Int32).toInt = 0 := rfl
  have s0 : Int32.ofNat k - (0 : Int32) = Int32.ofNat k := Int32.sub_zero _
  have s1 : Int32.ofNat cap - (0 : Int32) = Int32.ofNat cap := Int32.sub_zero _
  refine Gd.go (fun _ w_k => XS.iloadN X0.here hx rfl (hb hby d35_0) rfl w_k) ?_
  show Gd _ _ _ _ (s₁.setTop (mkF m 1 #[.val (.ref A), .val (.int (0 : Int32)), .val (.int (Int32.ofNat k)), .unset, .unset] [(.int (0 : Int32))]))
  refine Gd.go (fun _ w_k => XS.iloadN X0.here hx rfl (hb hby d35_1) rfl w_k) ?_
  show Gd _ _ _ _ (s₁.setTop (mkF m 2 #[.val (.ref A), .val (.int (0 : Int32)), .val (.int (Int32.ofNat k)), .unset, .unset] [(.int (Int32.ofNat k)), (.int (0 : Int32))]))
  obtain ⟨T1, X1, e1, st1⟩ := own_callSP X0 hx hZ (y := (⟨"java/util/Arrays", "checkLength", "(II)V"⟩ : MethodName)) hown (hw _ (List.mem_of_getElem? (i := 220) rfl)) (hw _ (List.mem_of_getElem? (i := 221) rfl)) (hw _ (List.mem_of_getElem? (i := 170) rfl)) (hw _ (List.mem_of_getElem? (i := 222) rfl)) (by decide) (W := 0) (own_c36 l Z a0 hw k (by omega) h0) rfl rfl e0 (by decide) (by decide) (g := (mkF m 2 #[.val (.ref A), .val (.int (0 : Int32)), .val (.int (Int32.ofNat k)), .unset, .unset] [(.int (Int32.ofNat k)), (.int (0 : Int32))])) rfl (by rw [hml]; rfl) (argsL := [(.int (0 : Int32)), (.int (Int32.ofNat k))]) (rest := []) (lenOf own_pd3 rfl) rfl (Nat.le_of_eq rfl) (hb hby d35_2) rfl
  refine Gd.go (fun _ w_k => st1 _ w_k) ?_
  show Gd _ _ _ _ (T1.setTop (mkF m 5 #[.val (.ref A), .val (.int (0 : Int32)), .val (.int (Int32.ofNat k)), .unset, .unset] []))
  refine Gd.go (fun _ w_k => XS.iloadN X1.here hx rfl (hb hby d35_5) rfl w_k) ?_
  show Gd _ _ _ _ (T1.setTop (mkF m 6 #[.val (.ref A), .val (.int (0 : Int32)), .val (.int (Int32.ofNat k)), .unset, .unset] [(.int (Int32.ofNat k))]))
  refine Gd.go (fun _ w_k => XS.iloadN X1.here hx rfl (hb hby d35_6) rfl w_k) ?_
  show Gd _ _ _ _ (T1.setTop (mkF m 7 #[.val (.ref A), .val (.int (0 : Int32)), .val (.int (Int32.ofNat k)), .unset, .unset] [(.int (0 : Int32)), (.int (Int32.ofNat k))]))
  refine Gd.go (fun _ w_k => XS.isub X1.here hx rfl (hb hby d35_7) rfl w_k) ?_
  show Gd _ _ _ _ (T1.setTop (mkF m 8 #[.val (.ref A), .val (.int (0 : Int32)), .val (.int (Int32.ofNat k)), .unset, .unset] [(.int ((Int32.ofNat k) - (0 : Int32)))]))
  rw [s0]
  show Gd _ _ _ _ (T1.setTop (mkF m 8 #[.val (.ref A), .val (.int (0 : Int32)), .val (.int (Int32.ofNat k)), .unset, .unset] [(.int (Int32.ofNat k))]))
  refine Gd.go (fun _ w_k => XS.istoreN X1.here hx rfl (hb hby d35_8) rfl (l' := #[.val (.ref A), .val (.int (0 : Int32)), .val (.int (Int32.ofNat k)), .val (.int (Int32.ofNat k)), .unset]) rfl w_k) ?_
  show Gd _ _ _ _ (T1.setTop (mkF m 9 #[.val (.ref A), .val (.int (0 : Int32)), .val (.int (Int32.ofNat k)), .val (.int (Int32.ofNat k)), .unset] []))
  refine Gd.go (fun _ w_k => XS.iloadN X1.here hx rfl (hb hby d35_9) rfl w_k) ?_
  show Gd _ _ _ _ (T1.setTop (mkF m 10 #[.val (.ref A), .val (.int (0 : Int32)), .val (.int (Int32.ofNat k)), .val (.int (Int32.ofNat k)), .unset] [(.int (Int32.ofNat k))]))
  obtain ⟨T2, h2, k2, X2, e2, E2, A2, Ax2, st2⟩ := newPE X1 hx hZ (hw _ (List.mem_of_getElem? (i := 38) rfl)) e1 (g := (mkF m 10 #[.val (.ref A), .val (.int (0 : Int32)), .val (.int (Int32.ofNat k)), .val (.int (Int32.ofNat k)), .unset] [(.int (Int32.ofNat k))])) rfl (hb hby d35_10) rfl (by rw [Int32.lt_iff_toInt_lt]; omega) (cap := 25) (by omega) (by decide) (by decide) (by decide) (ad := "[B") (by decide)
  obtain ⟨b2, g2⟩ : ∃ z, z = h0.size := ⟨_, rfl⟩
  rw [← g2] at A2 st2 Ax2
  have ne_A_b2 : A ≠ b2 := fun q => Nat.lt_irrefl _ (Nat.lt_of_lt_of_le A0.lt (Nat.le_of_eq (q.trans g2).symm))
  have n0_b2 : n0 ≤ b2 := Nat.le_trans Z0 (Nat.le_of_eq g2.symm)
  have kn_b2 : h0.size ≤ b2 := Nat.le_trans K0.1 (Nat.le_of_eq g2.symm)
  have xF3 := A0.ext E2
  have xO4 := Old.ext O0 E2
  have xZs5 := Nat.le_trans Z0 E2.1
  have xK6 := Keep.ext K0 E2
  have xF7 : ArF Z h2 b2 .byte ((Int32.ofNat k)).toNatClampNeg (fun _ => (.int (0 : Int32))) := own_new (h := h0) A2 (by rw [Int32.lt_iff_toInt_lt]; omega)
  refine Gd.go (fun _ w_k => st2 _ w_k) ?_
  show Gd _ _ _ _ (T2.setTop (mkF m 12 #[.val (.ref A), .val (.int (0 : Int32)), .val (.int (Int32.ofNat k)), .val (.int (Int32.ofNat k)), .unset] [(.ref b2)]))
  refine Gd.go (fun _ w_k => XS.astore X2.here hx rfl (hb hby d35_12) rfl rfl (l' := #[.val (.ref A), .val (.int (0 : Int32)), .val (.int (Int32.ofNat k)), .val (.int (Int32.ofNat k)), .val (.ref b2)]) rfl w_k) ?_
  show Gd _ _ _ _ (T2.setTop (mkF m 14 #[.val (.ref A), .val (.int (0 : Int32)), .val (.int (Int32.ofNat k)), .val (.int (Int32.ofNat k)), .val (.ref b2)] []))
  refine Gd.go (fun _ w_k => XS.aloadN X2.here hx rfl (hb hby d35_14) rfl rfl w_k) ?_
  show Gd _ _ _ _ (T2.setTop (mkF m 15 #[.val (.ref A), .val (.int (0 : Int32)), .val (.int (Int32.ofNat k)), .val (.int (Int32.ofNat k)), .val (.ref b2)] [(.ref A)]))
  refine Gd.go (fun _ w_k => XS.iloadN X2.here hx rfl (hb hby d35_15) rfl w_k) ?_
  show Gd _ _ _ _ (T2.setTop (mkF m 16 #[.val (.ref A), .val (.int (0 : Int32)), .val (.int (Int32.ofNat k)), .val (.int (Int32.ofNat k)), .val (.ref b2)] [(.int (0 : Int32)), (.ref A)]))
  refine Gd.go (fun _ w_k => XS.aload X2.here hx rfl (hb hby d35_16) rfl rfl w_k) ?_
  show Gd _ _ _ _ (T2.setTop (mkF m 18 #[.val (.ref A), .val (.int (0 : Int32)), .val (.int (Int32.ofNat k)), .val (.int (Int32.ofNat k)), .val (.ref b2)] [(.ref b2), (.int (0 : Int32)), (.ref A)]))
  refine Gd.go (fun _ w_k => XS.iconst X2.here hx rfl (hb hby d35_18) w_k) ?_
  show Gd _ _ _ _ (T2.setTop (mkF m 19 #[.val (.ref A), .val (.int (0 : Int32)), .val (.int (Int32.ofNat k)), .val (.int (Int32.ofNat k)), .val (.ref b2)] [(.int (0 : Int32)), (.ref b2), (.int (0 : Int32)), (.ref A)]))
  refine Gd.go (fun _ w_k => XS.aloadN X2.here hx rfl (hb hby d35_19) rfl rfl w_k) ?_
  show Gd _ _ _ _ (T2.setTop (mkF m 20 #[.val (.ref A), .val (.int (0 : Int32)), .val (.int (Int32.ofNat k)), .val (.int (Int32.ofNat k)), .val (.ref b2)] [(.ref A), (.int (0 : Int32)), (.ref b2), (.int (0 : Int32)), (.ref A)]))
  refine Gd.go (fun _ w_k => own_len X2 hx hZ e2 xF3 (z := (Int32.ofNat cap)) rfl (g := (mkF m 20 #[.val (.ref A), .val (.int (0 : Int32)), .val (.int (Int32.ofNat k)), .val (.int (Int32.ofNat k)), .val (.ref b2)] [(.ref A), (.int (0 : Int32)), (.ref b2), (.int (0 : Int32)), (.ref A)])) rfl rfl (hb hby d35_20) _ w_k) ?_
  show Gd _ _ _ _ (T2.setTop (mkF m 21 #[.val (.ref A), .val (.int (0 : Int32)), .val (.int (Int32.ofNat k)), .val (.int (Int32.ofNat k)), .val (.ref b2)] [(.int (Int32.ofNat cap)), (.int (0 : Int32)), (.ref b2), (.int (0 : Int32)), (.ref A)]))
  refine Gd.go (fun _ w_k => XS.iloadN X2.here hx rfl (hb hby d35_21) rfl w_k) ?_
  show Gd _ _ _ _ (T2.setTop (mkF m 22 #[.val (.ref A), .val (.int (0 : Int32)), .val (.int (Int32.ofNat k)), .val (.int (Int32.ofNat k)), .val (.ref b2)] [(.int (0 : Int32)), (.int (Int32.ofNat cap)), (.int (0 : Int32)), (.ref b2), (.int (0 : Int32)), (.ref A)]))
  refine Gd.go (fun _ w_k => XS.isub X2.here hx rfl (hb hby d35_22) rfl w_k) ?_
  show Gd _ _ _ _ (T2.setTop (mkF m 23 #[.val (.ref A), .val (.int (0 : Int32)), .val (.int (Int32.ofNat k)), .val (.int (Int32.ofNat k)), .val (.ref b2)] [(.int ((Int32.ofNat cap) - (0 : Int32))), (.int (0 : Int32)), (.ref b2), (.int (0 : Int32)), (.ref A)]))
  refine Gd.go (fun _ w_k => XS.iloadN X2.here hx rfl (hb hby d35_23) rfl w_k) ?_
  show Gd _ _ _ _ (T2.setTop (mkF m 24 #[.val (.ref A), .val (.int (0 : Int32)), .val (.int (Int32.ofNat k)), .val (.int (Int32.ofNat k)), .val (.ref b2)] [(.int (Int32.ofNat k)), (.int ((Int32.ofNat cap) - (0 : Int32))), (.int (0 : Int32)), (.ref b2), (.int (0 : Int32)), (.ref A)]))
  rw [s1]
  show Gd _ _ _ _ (T2.setTop (mkF m 24 #[.val (.ref A), .val (.int (0 : Int32)), .val (.int (Int32.ofNat k)), .val (.int (Int32.ofNat k)), .val (.ref b2)] [(.int (Int32.ofNat k)), (.int (Int32.ofNat cap)), (.int (0 : Int32)), (.ref b2), (.int (0 : Int32)), (.ref A)]))
  obtain ⟨T8, X8, e8, st8⟩ := own_callSP X2 hx hZ (y := (⟨"java/lang/Math", "min", "(II)I"⟩ : MethodName)) hown (hw _ (List.mem_of_getElem? (i := 223) rfl)) (hw _ (List.mem_of_getElem? (i := 224) rfl)) (hw _ (List.mem_of_getElem? (i := 225) rfl)) (hw _ (List.mem_of_getElem? (i := 226) rfl)) (by decide) (W := 4) (own_c37 l Z a0 hw (Int32.ofNat cap) (Int32.ofNat k) h2) rfl rfl e2 (by decide) (by decide) (g := (mkF m 24 #[.val (.ref A), .val (.int (0 : Int32)), .val (.int (Int32.ofNat k)), .val (.int (Int32.ofNat k)), .val (.ref b2)] [(.int (Int32.ofNat k)), (.int (Int32.ofNat cap)), (.int (0 : Int32)), (.ref b2), (.int (0 : Int32)), (.ref A)])) rfl (by rw [hml]; rfl) (argsL := [(.int (Int32.ofNat cap)), (.int (Int32.ofNat k))]) (rest := [(.int (0 : Int32)), (.ref b2), (.int (0 : Int32)), (.ref A)]) (lenOf own_pd13 rfl) rfl (Nat.le_of_eq rfl) (hb hby d35_24) rfl
  refine Gd.go (fun _ w_k => st8 _ w_k) ?_
  show Gd _ _ _ _ (T8.setTop (mkF m 27 #[.val (.ref A), .val (.int (0 : Int32)), .val (.int (Int32.ofNat k)), .val (.int (Int32.ofNat k)), .val (.ref b2)] [(.int (if Int32.ofNat k < Int32.ofNat cap then Int32.ofNat k else Int32.ofNat cap)), (.int (0 : Int32)), (.ref b2), (.int (0 : Int32)), (.ref A)]))
  have hm : (if Int32.ofNat k < Int32.ofNat cap then Int32.ofNat k else Int32.ofNat cap) = Int32.ofNat k := by
    split
    · rfl
    · rename_i q; rw [Int32.lt_iff_toInt_lt] at q; exact congrArg Int32.ofNat (by omega)
  rw [hm]
  show Gd _ _ _ _ (T8.setTop (mkF m 27 #[.val (.ref A), .val (.int (0 : Int32)), .val (.int (Int32.ofNat k)), .val (.int (Int32.ofNat k)), .val (.ref b2)] [(.int (Int32.ofNat k)), (.int (0 : Int32)), (.ref b2), (.int (0 : Int32)), (.ref A)]))
  obtain ⟨T9, h9, L9, X9, e9, Nc9, Kc9, Ac9, st9⟩ := own_cp X8 hx hZ hown (hw _ (List.mem_of_getElem? (i := 227) rfl)) (hw _ (List.mem_of_getElem? (i := 141) rfl)) (hw _ (List.mem_of_getElem? (i := 139) rfl)) (hw _ (List.mem_of_getElem? (i := 140) rfl)) e8 (ty := .byte) rfl xF3 xF7 (own_fitB fb) (fun _ _ => by decide) (sp := (0 : Int32)) (dp := (0 : Int32)) (nn := (Int32.ofNat k)) (by decide) (by decide) (by omega) (by omega) (by omega) N0 n0_b2 (g := (mkF m 27 #[.val (.ref A), .val (.int (0 : Int32)), .val (.int (Int32.ofNat k)), .val (.int (Int32.ofNat k)), .val (.ref b2)] [(.int (Int32.ofNat k)), (.int (0 : Int32)), (.ref b2), (.int (0 : Int32)), (.ref A)])) rfl (by rw [hml]; rfl) rfl (hb hby d35_27) (by decide) (W := 0) (Nat.le_of_eq rfl) (by decide)
  refine Gd.go (fun _ w_k => st9 _ w_k) ?_
  have xF10 := xF3.keep Kc9 (ninS ne_A_b2 nin0)
  have xF11 := Ax2.keep Kc9
  have xO12 := Old.keep xO4 Kc9 (allS n0_b2 all0)
  have xZs13 := Nat.le_trans xZs5 Kc9.1
  have xK14 := Keep.trans xK6 Kc9 (allS (P := fun z => z ∈ ([] : List Addr) ∨ h0.size ≤ z) (Or.inr kn_b2) all0)
  show Gd _ _ _ _ (T9.setTop (mkF m 30 #[.val (.ref A), .val (.int (0 : Int32)), .val (.int (Int32.ofNat k)), .val (.int (Int32.ofNat k)), .val (.ref b2)] []))
  refine Gd.go (fun _ w_k => XS.aload X9.here hx rfl (hb hby d35_30) rfl rfl w_k) ?_
  show Gd _ _ _ _ (T9.setTop (mkF m 32 #[.val (.ref A), .val (.int (0 : Int32)), .val (.int (Int32.ofNat k)), .val (.int (Int32.ofNat k)), .val (.ref b2)] [(.ref b2)]))
  refine own_retA X9 hx hret hlk rfl (hb hby d35_32) ?_ (by decide) (by decide)
  rw [e9]
  refine ⟨b2, rfl, kn_b2, xK14, ?_, xO12, Nc9⟩
  have xA := Ac9
  rw [ec2] at xA
  refine xA.congr fun i hi => ?_
  rw [if_pos ⟨Nat.zero_le _, by show i < 0 + k; omega⟩]
  show own_iv g (0 + (i - 0)) = _
  simp
theorem own_pn25 : plainFor (⟨"java/util/Arrays", "copyOfRange", "([BII)[B"⟩ : MethodName) = true := by first | exact plainFor_of_name (by first | (simp [plainName, overriddenIn, x]; done) | decide +kernel) | decide +kernel
theorem ef_26 (m : MethodId) (q0 : Addr) (q1 : Int32) (q2 : Int32) : entryFrame m #[(.ref q0), (.int q1), (.int q2)] 3 = mkF m 0 #[.val (.ref q0), .val (.int q1), .val (.int q2)] [] := by first | (simp [entryFrame, mkF, argsToLocals, Value.category, maxLocals]; done) | rfl
theorem d26_0 : decode jdk_65_method_132_code 0 = .ok (.iload_n 1, 1) := by decide +kernel
theorem d26_1 : decode jdk_65_method_132_code 1 = .ok (.ifCond .ne 9, 3) := by decide +kernel
theorem d26_4 : decode jdk_65_method_132_code 4 = .ok (.iload_n 2, 1) := by decide +kernel
theorem d26_5 : decode jdk_65_method_132_code 5 = .ok (.aload_n 0, 1) := by decide +kernel
theorem d26_6 : decode jdk_65_method_132_code 6 = .ok (.arraylength, 1) := by decide +kernel
theorem d26_7 : decode jdk_65_method_132_code 7 = .ok (.if_icmp .eq 10, 3) := by decide +kernel
theorem d26_17 : decode jdk_65_method_132_code 17 = .ok (.aload_n 0, 1) := by decide +kernel
theorem d26_18 : decode jdk_65_method_132_code 18 = .ok (.invokevirtual 310, 3) := by decide +kernel
theorem d26_21 : decode jdk_65_method_132_code 21 = .ok (.checkcast 311, 3) := by decide +kernel
theorem d26_24 : decode jdk_65_method_132_code 24 = .ok (.areturn, 1) := by decide +kernel
theorem d26_10 : decode jdk_65_method_132_code 10 = .ok (.aload_n 0, 1) := by decide +kernel
theorem d26_11 : decode jdk_65_method_132_code 11 = .ok (.iload_n 1, 1) := by decide +kernel
theorem d26_12 : decode jdk_65_method_132_code 12 = .ok (.iload_n 2, 1) := by decide +kernel
theorem own_pd14 : parseMethodDescriptor "([BII)[B" = some ⟨[(.array .byte), .int, .int], some (.array .byte)⟩ := by decide +kernel
theorem d26_13 : decode jdk_65_method_132_code 13 = .ok (.invokestatic 339, 3) := by decide +kernel
theorem d26_16 : decode jdk_65_method_132_code 16 = .ok (.areturn, 1) := by decide +kernel
set_option maxRecDepth 65536 in
set_option maxHeartbeats 40000000 in
theorem own_c26 (l : Launch) (Z : State) (a0 : Array Value) (hw : ∀ d ∈ tables_1, d.before a0 Z = true) (cs : Int32) (fv gv : Value) (d1 d2 : Addr) (G : own_G Z cs fv gv d1 d2) (h0 : Heap) (n0 : Nat) (O0 : Old Z n0 h0) (Z0 : n0 ≤ h0.size) (A : Addr) (cap k : Nat) (g : Nat → Nat) (A0 : ArF Z h0 A .byte cap (own_iv g)) (gX : Exa Z h0 A "[B") (fb : own_by g) (hk : k ≤ cap) (hk2 : k ≤ 25) :
    Con l Z (⟨"java/util/Arrays", "copyOfRange", "([BII)[B"⟩ : MethodName) jdk_65_method_132_code 3 (some (.array .byte)) [] ({ frames := 2, cells := 1, slots := 25, locals := 56 } : Room) 1 25 #[(.ref A), (.int (0 : Int32)), (.int (Int32.ofNat k))] h0 (fun r h L => ∃ W, r = some (.ref W) ∧ h0.size ≤ W ∧ Keep h0 h [] ∧ ArF Z h W .byte k (own_iv g) ∧ Old Z n0 h ∧ Fr n0 L) := by
  refine Con.of own_pn25 ?_
  intro pg ev s_ m bl mt cd s₁ hx hby hml hown hnm hret hlk hZ X0 e0
  rw [ef_26]
  show Gd _ _ _ _ (s₁.setTop (mkF m 0 #[.val (.ref A), .val (.int (0 : Int32)), .val (.int (Int32.ofNat k))] []))
  have nA := A0.n31
  refine Gd.go (fun _ w_k => XS.iloadN X0.here hx rfl (hb hby d26_0) rfl w_k) ?_
  show Gd _ _ _ _ (s₁.setTop (mkF m 1 #[.val (.ref A), .val (.int (0 : Int32)), .val (.int (Int32.ofNat k))] [(.int (0 : Int32))]))
  refine Gd.go (fun _ w_k => XS.ifNo X0.here hx rfl (hb hby d26_1) rfl ((if0 _ _).trans (teq (by decide)).2) w_k) ?_
  show Gd _ _ _ _ (s₁.setTop (mkF m 4 #[.val (.ref A), .val (.int (0 : Int32)), .val (.int (Int32.ofNat k))] []))
  refine Gd.go (fun _ w_k => XS.iloadN X0.here hx rfl (hb hby d26_4) rfl w_k) ?_
  show Gd _ _ _ _ (s₁.setTop (mkF m 5 #[.val (.ref A), .val (.int (0 : Int32)), .val (.int (Int32.ofNat k))] [(.int (Int32.ofNat k))]))
  refine Gd.go (fun _ w_k => XS.aloadN X0.here hx rfl (hb hby d26_5) rfl rfl w_k) ?_
  show Gd _ _ _ _ (s₁.setTop (mkF m 6 #[.val (.ref A), .val (.int (0 : Int32)), .val (.int (Int32.ofNat k))] [(.ref A), (.int (Int32.ofNat k))]))
  refine Gd.go (fun _ w_k => own_len X0 hx hZ e0 A0 (z := (Int32.ofNat cap)) rfl (g := (mkF m 6 #[.val (.ref A), .val (.int (0 : Int32)), .val (.int (Int32.ofNat k))] [(.ref A), (.int (Int32.ofNat k))])) rfl rfl (hb hby d26_6) _ w_k) ?_
  show Gd _ _ _ _ (s₁.setTop (mkF m 7 #[.val (.ref A), .val (.int (0 : Int32)), .val (.int (Int32.ofNat k))] [(.int (Int32.ofNat cap)), (.int (Int32.ofNat k))]))
  by_cases hc1 : (Int32.ofNat k) = (Int32.ofNat cap)
  · refine Gd.go (fun _ w_k => XS.icmpYes X0.here hx rfl (pc0 := 7) (pc' := 17) rfl (hb hby d26_7) rfl (teq hc1).1 (by decide) (by decide) w_k) ?_
    show Gd _ _ _ _ (s₁.setTop (mkF m 17 #[.val (.ref A), .val (.int (0 : Int32)), .val (.int (Int32.ofNat k))] []))
    refine Gd.go (fun _ w_k => XS.aloadN X0.here hx rfl (hb hby d26_17) rfl rfl w_k) ?_
    show Gd _ _ _ _ (s₁.setTop (mkF m 18 #[.val (.ref A), .val (.int (0 : Int32)), .val (.int (Int32.ofNat k))] [(.ref A)]))
    obtain ⟨T9, h9, X9, e9, E9, A9, Y9, st9⟩ := own_clone X0 hx hZ hown (hw _ (List.mem_of_getElem? (i := 172) rfl)) (hw _ (List.mem_of_getElem? (i := 173) rfl)) (hw _ (List.mem_of_getElem? (i := 177) rfl)) (hw _ (List.mem_of_getElem? (i := 175) rfl)) (hw _ (List.mem_of_getElem? (i := 176) rfl)) (hw _ (List.mem_of_getElem? (i := 178) rfl)) e0 A0 gX (own_fitB fb) (g := (mkF m 18 #[.val (.ref A), .val (.int (0 : Int32)), .val (.int (Int32.ofNat k))] [(.ref A)])) rfl (by rw [hml]; rfl) rfl (hb hby d26_18) (by decide) (W := 0) (cap := 25) (Nat.le_of_eq rfl) (by decide) (by have := congrArg Int32.toInt hc1; rw [own_ofN (by omega), own_ofN nA] at this; omega) (by decide) (by decide)
    refine Gd.go (fun _ w_k => st9 _ w_k) ?_
    show Gd _ _ _ _ (T9.setTop (mkF m 21 #[.val (.ref A), .val (.int (0 : Int32)), .val (.int (Int32.ofNat k))] [(.ref h0.size)]))
    obtain ⟨T2, X2, e2, st2⟩ := castY X9 hx hZ hown (hw _ (List.mem_of_getElem? (i := 179) rfl)) e9 (Ins.self Y9) (g := (mkF m 21 #[.val (.ref A), .val (.int (0 : Int32)), .val (.int (Int32.ofNat k))] [(.ref h0.size)])) rfl rfl (hb hby d26_21)
    refine Gd.go (fun _ w_k => st2 _ w_k) ?_
    show Gd _ _ _ _ (T2.setTop (mkF m 24 #[.val (.ref A), .val (.int (0 : Int32)), .val (.int (Int32.ofNat k))] [(.ref h0.size)]))
    refine own_retA X2 hx hret hlk rfl (hb hby d26_24) ?_ (by decide) (by decide)
    rw [e2]
    have ek : k = cap := by have := congrArg Int32.toInt hc1; rw [own_ofN (by omega), own_ofN nA] at this; omega
    subst ek
    exact ⟨h0.size, rfl, Nat.le_refl _, ⟨E9.1, fun y c q _ => E9.2 y c q, fun y c q => ⟨c, E9.2 y c q, rfl, rfl, rfl⟩⟩, A9, O0.ext E9, Fr.nil n0⟩
  · refine Gd.go (fun _ w_k => XS.icmpNo X0.here hx rfl (hb hby d26_7) rfl (feq hc1).1 w_k) ?_
    show Gd _ _ _ _ (s₁.setTop (mkF m 10 #[.val (.ref A), .val (.int (0 : Int32)), .val (.int (Int32.ofNat k))] []))
    refine Gd.go (fun _ w_k => XS.aloadN X0.here hx rfl (hb hby d26_10) rfl rfl w_k) ?_
    show Gd _ _ _ _ (s₁.setTop (mkF m 11 #[.val (.ref A), .val (.int (0 : Int32)), .val (.int (Int32.ofNat k))] [(.ref A)]))
    refine Gd.go (fun _ w_k => XS.iloadN X0.here hx rfl (hb hby d26_11) rfl w_k) ?_
    show Gd _ _ _ _ (s₁.setTop (mkF m 12 #[.val (.ref A), .val (.int (0 : Int32)), .val (.int (Int32.ofNat k))] [(.int (0 : Int32)), (.ref A)]))
    refine Gd.go (fun _ w_k => XS.iloadN X0.here hx rfl (hb hby d26_12) rfl w_k) ?_
    show Gd _ _ _ _ (s₁.setTop (mkF m 13 #[.val (.ref A), .val (.int (0 : Int32)), .val (.int (Int32.ofNat k))] [(.int (Int32.ofNat k)), (.int (0 : Int32)), (.ref A)]))
    obtain ⟨v3, T3, L3, X3, hQ3, st3⟩ := own_callS X0 hx hZ (y := (⟨"java/util/Arrays", "copyOfRangeByte", "([BII)[B"⟩ : MethodName)) hown (hw _ (List.mem_of_getElem? (i := 217) rfl)) (hw _ (List.mem_of_getElem? (i := 218) rfl)) (hw _ (List.mem_of_getElem? (i := 170) rfl)) (hw _ (List.mem_of_getElem? (i := 219) rfl)) (by decide) (W := 0) (own_c35 l Z a0 hw cs fv gv d1 d2 G h0 n0 O0 Z0 A cap k g A0 gX fb hk hk2) rfl rfl e0 (by decide) (by decide) (g := (mkF m 13 #[.val (.ref A), .val (.int (0 : Int32)), .val (.int (Int32.ofNat k))] [(.int (Int32.ofNat k)), (.int (0 : Int32)), (.ref A)])) rfl (by rw [hml]; rfl) (argsL := [(.ref A), (.int (0 : Int32)), (.int (Int32.ofNat k))]) (rest := []) (lenOf own_pd14 rfl) rfl (Nat.le_of_eq rfl) (hb hby d26_13) rfl (by decide) (by decide)
    obtain ⟨W, rfl, q9, K9, A9, O9, N9⟩ := hQ3
    refine Gd.go (fun _ w_k => st3 _ w_k) ?_
    show Gd _ _ _ _ (T3.setTop (mkF m 16 #[.val (.ref A), .val (.int (0 : Int32)), .val (.int (Int32.ofNat k))] [(.ref W)]))
    refine own_retA X3 hx hret hlk rfl (hb hby d26_16) ?_ (by decide) (by decide)
    exact ⟨W, rfl, q9, K9, A9, O9, by simpa using N9⟩
theorem own_pn26 : plainFor (⟨"java/lang/String", "<init>", "([BB)V"⟩ : MethodName) = true := by first | exact plainFor_of_name (by first | (simp [plainName, overriddenIn, x]; done) | decide +kernel) | decide +kernel
theorem ef_6 (m : MethodId) (q0 : Addr) (q1 : Addr) (q2 : Int32) : entryFrame m #[(.ref q0), (.ref q1), (.int q2)] 3 = mkF m 0 #[.val (.ref q0), .val (.ref q1), .val (.int q2)] [] := by first | (simp [entryFrame, mkF, argsToLocals, Value.category, maxLocals]; done) | rfl
theorem d6_0 : decode jdk_42_method_151_code 0 = .ok (.aload_n 0, 1) := by decide +kernel
theorem d6_1 : decode jdk_42_method_151_code 1 = .ok (.invokespecial 1, 3) := by decide +kernel
theorem d6_4 : decode jdk_42_method_151_code 4 = .ok (.aload_n 0, 1) := by decide +kernel
theorem d6_5 : decode jdk_42_method_151_code 5 = .ok (.aload_n 1, 1) := by decide +kernel
theorem d6_6 : decode jdk_42_method_151_code 6 = .ok (.putfield 9, 3) := by decide +kernel
theorem d6_9 : decode jdk_42_method_151_code 9 = .ok (.aload_n 0, 1) := by decide +kernel
theorem d6_10 : decode jdk_42_method_151_code 10 = .ok (.iload_n 2, 1) := by decide +kernel
theorem d6_11 : decode jdk_42_method_151_code 11 = .ok (.putfield 15, 3) := by decide +kernel
theorem d6_14 : decode jdk_42_method_151_code 14 = .ok (.return_, 1) := by decide +kernel
set_option maxRecDepth 65536 in
set_option maxHeartbeats 40000000 in
theorem own_c6 (l : Launch) (Z : State) (a0 : Array Value) (hw : ∀ d ∈ tables_1, d.before a0 Z = true) (cs : Int32) (fv gv : Value) (d1 d2 : Addr) (G : own_G Z cs fv gv d1 d2) (h0 : Heap) (n0 : Nat) (O0 : Old Z n0 h0) (t : Addr) (gt : n0 ≤ t) (E0 : Exa Z h0 t "java/lang/String") (F1 : Fld Z h0 t "java/lang/String" "value" "[B" .null) (F2 : Fld Z h0 t "java/lang/String" "coder" "B" (.int (0 : Int32))) (V : Addr) (gV : n0 ≤ V) (n : Nat) (f : Nat → Nat) (A0 : ArF Z h0 V .byte n (own_iv f)) (ne : t ≠ V) :
    Con l Z (⟨"java/lang/String", "<init>", "([BB)V"⟩ : MethodName) jdk_42_method_151_code 3 none [] ({ frames := 1, cells := 0, slots := 0, locals := 12 } : Room) 0 0 #[(.ref t), (.ref V), (.int (0 : Int32))] h0 (fun r h L => r = none ∧ Keep h0 h [t] ∧ own_T Z h t V n0 n f ∧ Old Z n0 h ∧ Fr n0 L) := by
  refine Con.of own_pn26 ?_
  intro pg ev s_ m bl mt cd s₁ hx hby hml hown hnm hret hlk hZ X0 e0
  rw [ef_6]
  show Gd _ _ _ _ (s₁.setTop (mkF m 0 #[.val (.ref t), .val (.ref V), .val (.int (0 : Int32))] []))
  have N0 := Fr.nil n0
  have K0 := Keep.refl h0 [t]
  refine Gd.go (fun _ w_k => XS.aloadN X0.here hx rfl (hb hby d6_0) rfl rfl w_k) ?_
  show Gd _ _ _ _ (s₁.setTop (mkF m 1 #[.val (.ref t), .val (.ref V), .val (.int (0 : Int32))] [(.ref t)]))
  obtain ⟨T1, X1, e1, st1⟩ := initO X0 hx hZ hown (hw _ (List.mem_of_getElem? (i := 51) rfl)) (hw _ (List.mem_of_getElem? (i := 52) rfl)) (hw _ (List.mem_of_getElem? (i := 53) rfl)) e0 (g := (mkF m 1 #[.val (.ref t), .val (.ref V), .val (.int (0 : Int32))] [(.ref t)])) rfl (by rw [hml]; rfl) rfl (hb hby d6_1) (by decide) (W := 0) (Nat.le_of_eq rfl) (by decide)
  refine Gd.go (fun _ w_k => st1 _ w_k) ?_
  show Gd _ _ _ _ (T1.setTop (mkF m 4 #[.val (.ref t), .val (.ref V), .val (.int (0 : Int32))] []))
  refine Gd.go (fun _ w_k => XS.aloadN X1.here hx rfl (hb hby d6_4) rfl rfl w_k) ?_
  show Gd _ _ _ _ (T1.setTop (mkF m 5 #[.val (.ref t), .val (.ref V), .val (.int (0 : Int32))] [(.ref t)]))
  refine Gd.go (fun _ w_k => XS.aloadN X1.here hx rfl (hb hby d6_5) rfl rfl w_k) ?_
  show Gd _ _ _ _ (T1.setTop (mkF m 6 #[.val (.ref t), .val (.ref V), .val (.int (0 : Int32))] [(.ref V), (.ref t)]))
  obtain ⟨T2, h2, X2, e2, W2, st2⟩ := putF X1 hx hZ hown (host := "") (Or.inl (hw _ (List.mem_of_getElem? (i := 54) rfl))) Via.refl e1 F1 E0 (Or.inr ⟨(hw _ (List.mem_of_getElem? (i := 55) rfl)), rfl, hnm⟩) (hw _ (List.mem_of_getElem? (i := 46) rfl)) (ty := (.array .byte)) (by decide) rfl rfl (g := (mkF m 6 #[.val (.ref t), .val (.ref V), .val (.int (0 : Int32))] [(.ref V), (.ref t)])) rfl rfl (hb hby d6_6)
  refine Gd.go (fun _ w_k => st2 _ w_k) ?_
  have xF3 := E0.wr W2
  have xF4 := F1.same W2
  have xF5 := F2.other W2 (Or.inr (slot_ne (Or.inr (hw _ (List.mem_of_getElem? (i := 57) rfl))) (Or.inr (hw _ (List.mem_of_getElem? (i := 55) rfl))) (by decide) (t := .byte) (t' := (.array .byte)) (by decide) (by decide)))
  have xF6 := A0.other W2 (Ne.symm ne)
  have xN7 := Fr.snoc X2 N0 gt
  have xO8 := Old.wr O0 W2 gt
  have xK9 := Keep.wr K0 W2 (Or.inl (List.mem_singleton.mpr rfl))
  show Gd _ _ _ _ (T2.setTop (mkF m 9 #[.val (.ref t), .val (.ref V), .val (.int (0 : Int32))] []))
  refine Gd.go (fun _ w_k => XS.aloadN X2.here hx rfl (hb hby d6_9) rfl rfl w_k) ?_
  show Gd _ _ _ _ (T2.setTop (mkF m 10 #[.val (.ref t), .val (.ref V), .val (.int (0 : Int32))] [(.ref t)]))
  refine Gd.go (fun _ w_k => XS.iloadN X2.here hx rfl (hb hby d6_10) rfl w_k) ?_
  show Gd _ _ _ _ (T2.setTop (mkF m 11 #[.val (.ref t), .val (.ref V), .val (.int (0 : Int32))] [(.int (0 : Int32)), (.ref t)]))
  obtain ⟨T10, h10, X10, e10, W10, st10⟩ := putF X2 hx hZ hown (host := "") (Or.inl (hw _ (List.mem_of_getElem? (i := 56) rfl))) Via.refl e2 xF5 xF3 (Or.inr ⟨(hw _ (List.mem_of_getElem? (i := 57) rfl)), rfl, hnm⟩) (hw _ (List.mem_of_getElem? (i := 46) rfl)) (ty := .byte) (by decide) rfl rfl (g := (mkF m 11 #[.val (.ref t), .val (.ref V), .val (.int (0 : Int32))] [(.int (0 : Int32)), (.ref t)])) rfl rfl (hb hby d6_11)
  refine Gd.go (fun _ w_k => st10 _ w_k) ?_
  have xF11 := xF3.wr W10
  have xF12 := xF4.other W10 (Or.inr (slot_ne (Or.inr (hw _ (List.mem_of_getElem? (i := 55) rfl))) (Or.inr (hw _ (List.mem_of_getElem? (i := 57) rfl))) (by decide) (t := (.array .byte)) (t' := .byte) (by decide) (by decide)))
  have xF13 := xF5.same W10
  have xF14 := xF6.other W10 (Ne.symm ne)
  have xN15 := Fr.snoc X10 xN7 gt
  have xO16 := Old.wr xO8 W10 gt
  have xK17 := Keep.wr xK9 W10 (Or.inl (List.mem_singleton.mpr rfl))
  show Gd _ _ _ _ (T10.setTop (mkF m 14 #[.val (.ref t), .val (.ref V), .val (.int (0 : Int32))] []))
  refine own_retV X10 hx hret hlk (hb hby d6_14) ?_ (by decide) (by decide)
  rw [e10]
  exact ⟨rfl, xK17, ⟨xF11, xF12, xF13, xF14, gt, gV, ne⟩, xO16, xN15⟩
theorem own_pn27 : plainFor (⟨"java/lang/String", "<init>", "(Ljava/lang/AbstractStringBuilder;Ljava/lang/Void;)V"⟩ : MethodName) = true := by first | exact plainFor_of_name (by first | (simp [plainName, overriddenIn, x]; done) | decide +kernel) | decide +kernel
theorem ef_22 (m : MethodId) (q0 : Addr) (q1 : Addr) : entryFrame m #[(.ref q0), (.ref q1), .null] 5 = mkF m 0 #[.val (.ref q0), .val (.ref q1), .val .null, .unset, .unset] [] := by first | (simp [entryFrame, mkF, argsToLocals, Value.category, maxLocals]; done) | rfl
theorem d22_0 : decode jdk_42_method_150_code 0 = .ok (.aload_n 0, 1) := by decide +kernel
theorem d22_1 : decode jdk_42_method_150_code 1 = .ok (.invokespecial 1, 3) := by decide +kernel
theorem d22_4 : decode jdk_42_method_150_code 4 = .ok (.aload_n 1, 1) := by decide +kernel
theorem d22_5 : decode jdk_42_method_150_code 5 = .ok (.invokevirtual 552, 3) := by decide +kernel
theorem d22_8 : decode jdk_42_method_150_code 8 = .ok (.astore_n 3, 1) := by decide +kernel
theorem d22_9 : decode jdk_42_method_150_code 9 = .ok (.aload_n 1, 1) := by decide +kernel
theorem d22_10 : decode jdk_42_method_150_code 10 = .ok (.invokevirtual 549, 3) := by decide +kernel
theorem d22_13 : decode jdk_42_method_150_code 13 = .ok (.istore 4, 2) := by decide +kernel
theorem d22_15 : decode jdk_42_method_150_code 15 = .ok (.aload_n 1, 1) := by decide +kernel
theorem d22_16 : decode jdk_42_method_150_code 16 = .ok (.invokevirtual 1047, 3) := by decide +kernel
theorem d22_19 : decode jdk_42_method_150_code 19 = .ok (.ifCond .eq 22, 3) := by decide +kernel
theorem d22_22 : decode jdk_42_method_150_code 22 = .ok (.aload_n 0, 1) := by decide +kernel
theorem d22_23 : decode jdk_42_method_150_code 23 = .ok (.iconst 0, 1) := by decide +kernel
theorem d22_24 : decode jdk_42_method_150_code 24 = .ok (.putfield 15, 3) := by decide +kernel
theorem d22_27 : decode jdk_42_method_150_code 27 = .ok (.aload_n 0, 1) := by decide +kernel
theorem d22_28 : decode jdk_42_method_150_code 28 = .ok (.aload_n 3, 1) := by decide +kernel
theorem d22_29 : decode jdk_42_method_150_code 29 = .ok (.iconst 0, 1) := by decide +kernel
theorem d22_30 : decode jdk_42_method_150_code 30 = .ok (.iload 4, 2) := by decide +kernel
theorem d22_32 : decode jdk_42_method_150_code 32 = .ok (.invokestatic 54, 3) := by decide +kernel
theorem d22_35 : decode jdk_42_method_150_code 35 = .ok (.putfield 9, 3) := by decide +kernel
theorem d22_38 : decode jdk_42_method_150_code 38 = .ok (.goto 59, 3) := by decide +kernel
theorem d22_97 : decode jdk_42_method_150_code 97 = .ok (.return_, 1) := by decide +kernel
set_option maxRecDepth 65536 in
set_option maxHeartbeats 40000000 in
theorem own_c22 (l : Launch) (Z : State) (a0 : Array Value) (hw : ∀ d ∈ tables_1, d.before a0 Z = true) (cs : Int32) (fv gv : Value) (d1 d2 : Addr) (G : own_G Z cs fv gv d1 d2) (h0 : Heap) (n0 : Nat) (O0 : Old Z n0 h0) (Z0 : n0 ≤ h0.size) (t : Addr) (gt : n0 ≤ t) (E0 : Exa Z h0 t "java/lang/String") (F1 : Fld Z h0 t "java/lang/String" "value" "[B" .null) (F2 : Fld Z h0 t "java/lang/String" "coder" "B" (.int (0 : Int32))) (b A : Addr) (cap cnt : Nat) (g : Nat → Nat) (S : own_SB Z h0 b A n0 cap cnt g) (ne : b ≠ t) (nA : A ≠ t) (hc1 : cnt ≤ cap) (hc2 : cnt ≤ 25) :
    Con l Z (⟨"java/lang/String", "<init>", "(Ljava/lang/AbstractStringBuilder;Ljava/lang/Void;)V"⟩ : MethodName) jdk_42_method_150_code 5 none [] ({ frames := 3, cells := 1, slots := 25, locals := 71 } : Room) 1 25 #[(.ref t), (.ref b), .null] h0 (fun r h L => r = none ∧ Keep h0 h [t] ∧ (∃ W, h0.size ≤ W ∧ own_T Z h t W n0 cnt g) ∧ Old Z n0 h ∧ Fr n0 L) := by
  refine Con.of own_pn27 ?_
  intro pg ev s_ m bl mt cd s₁ hx hby hml hown hnm hret hlk hZ X0 e0
  rw [ef_22]
  show Gd _ _ _ _ (s₁.setTop (mkF m 0 #[.val (.ref t), .val (.ref b), .val .null, .unset, .unset] []))
  have N0 := Fr.nil n0
  have K0 := Keep.refl h0 [t]
  have S' := S
  obtain ⟨bE, bV, bC, bN, bA, bX, sn1, sn2, sn3, sn4⟩ := S'
  refine Gd.go (fun _ w_k => XS.aloadN X0.here hx rfl (hb hby d22_0) rfl rfl w_k) ?_
  show Gd _ _ _ _ (s₁.setTop (mkF m 1 #[.val (.ref t), .val (.ref b), .val .null, .unset, .unset] [(.ref t)]))
  obtain ⟨T1, X1, e1, st1⟩ := initO X0 hx hZ hown (hw _ (List.mem_of_getElem? (i := 51) rfl)) (hw _ (List.mem_of_getElem? (i := 52) rfl)) (hw _ (List.mem_of_getElem? (i := 53) rfl)) e0 (g := (mkF m 1 #[.val (.ref t), .val (.ref b), .val .null, .unset, .unset] [(.ref t)])) rfl (by rw [hml]; rfl) rfl (hb hby d22_1) (by decide) (W := 0) (Nat.le_of_eq rfl) (by decide)
  refine Gd.go (fun _ w_k => st1 _ w_k) ?_
  show Gd _ _ _ _ (T1.setTop (mkF m 4 #[.val (.ref t), .val (.ref b), .val .null, .unset, .unset] []))
  refine Gd.go (fun _ w_k => XS.aloadN X1.here hx rfl (hb hby d22_4) rfl rfl w_k) ?_
  show Gd _ _ _ _ (T1.setTop (mkF m 5 #[.val (.ref t), .val (.ref b), .val .null, .unset, .unset] [(.ref b)]))
  obtain ⟨T2, X2, e2, st2⟩ := own_callVP X1 hx hZ (C := "java/lang/StringBuilder") (y := (⟨"java/lang/AbstractStringBuilder", "getValue", "()[B"⟩ : MethodName)) hown (hw _ (List.mem_of_getElem? (i := 154) rfl)) (hw _ (List.mem_of_getElem? (i := 155) rfl)) (hw _ (List.mem_of_getElem? (i := 157) rfl)) (hw _ (List.mem_of_getElem? (i := 156) rfl)) (hw _ (List.mem_of_getElem? (i := 79) rfl)) (hw _ (List.mem_of_getElem? (i := 158) rfl)) (by decide) bE (W := 0) (own_c23 l Z a0 hw cs fv gv d1 d2 G h0 n0 O0 b A cap cnt g S) rfl rfl e1 (by decide) (by decide) (g := (mkF m 5 #[.val (.ref t), .val (.ref b), .val .null, .unset, .unset] [(.ref b)])) rfl (by rw [hml]; rfl) (argsL := []) (rest := []) (lenOf own_pd6 rfl) rfl (Nat.le_of_eq rfl) (hb hby d22_5) rfl
  refine Gd.go (fun _ w_k => st2 _ w_k) ?_
  show Gd _ _ _ _ (T2.setTop (mkF m 8 #[.val (.ref t), .val (.ref b), .val .null, .unset, .unset] [(.ref A)]))
  refine Gd.go (fun _ w_k => XS.astoreN X2.here hx rfl (hb hby d22_8) rfl rfl (l' := #[.val (.ref t), .val (.ref b), .val .null, .val (.ref A), .unset]) rfl w_k) ?_
  show Gd _ _ _ _ (T2.setTop (mkF m 9 #[.val (.ref t), .val (.ref b), .val .null, .val (.ref A), .unset] []))
  refine Gd.go (fun _ w_k => XS.aloadN X2.here hx rfl (hb hby d22_9) rfl rfl w_k) ?_
  show Gd _ _ _ _ (T2.setTop (mkF m 10 #[.val (.ref t), .val (.ref b), .val .null, .val (.ref A), .unset] [(.ref b)]))
  obtain ⟨T3, X3, e3, st3⟩ := own_pureOf (own_callZ X2 hx hZ (C := "java/lang/StringBuilder") (y := (⟨"java/lang/AbstractStringBuilder", "length", "()I"⟩ : MethodName)) (z := (⟨"java/lang/StringBuilder", "length", "()I"⟩ : MethodName)) (y' := (⟨"java/lang/AbstractStringBuilder", "ensureCapacityInternal", "(I)V"⟩ : MethodName)) hown (hw _ (List.mem_of_getElem? (i := 159) rfl)) (hw _ (List.mem_of_getElem? (i := 160) rfl)) (hw _ (List.mem_of_getElem? (i := 162) rfl)) (hw _ (List.mem_of_getElem? (i := 115) rfl)) rfl (hw _ (List.mem_of_getElem? (i := 163) rfl)) (hw _ (List.mem_of_getElem? (i := 71) rfl)) (hw _ (List.mem_of_getElem? (i := 164) rfl)) (by decide) bE (W := 0) (own_c24 l Z a0 hw cs fv gv d1 d2 G h0 n0 O0 b A cap cnt g S) rfl rfl e2 (by decide) (by decide) (g := (mkF m 10 #[.val (.ref t), .val (.ref b), .val .null, .val (.ref A), .unset] [(.ref b)])) rfl (by rw [hml]; rfl) (argsL := []) (rest := []) (lenOf own_pd1 rfl) rfl (Nat.le_of_eq rfl) (hb hby d22_10) rfl (by decide) (by decide))
  refine Gd.go (fun _ w_k => st3 _ w_k) ?_
  show Gd _ _ _ _ (T3.setTop (mkF m 13 #[.val (.ref t), .val (.ref b), .val .null, .val (.ref A), .unset] [(.int (Int32.ofNat cnt))]))
  refine Gd.go (fun _ w_k => XS.istore X3.here hx rfl (hb hby d22_13) rfl (l' := #[.val (.ref t), .val (.ref b), .val .null, .val (.ref A), .val (.int (Int32.ofNat cnt))]) rfl w_k) ?_
  show Gd _ _ _ _ (T3.setTop (mkF m 15 #[.val (.ref t), .val (.ref b), .val .null, .val (.ref A), .val (.int (Int32.ofNat cnt))] []))
  refine Gd.go (fun _ w_k => XS.aloadN X3.here hx rfl (hb hby d22_15) rfl rfl w_k) ?_
  show Gd _ _ _ _ (T3.setTop (mkF m 16 #[.val (.ref t), .val (.ref b), .val .null, .val (.ref A), .val (.int (Int32.ofNat cnt))] [(.ref b)]))
  obtain ⟨T4, X4, e4, st4⟩ := own_callVP X3 hx hZ (C := "java/lang/StringBuilder") (y := (⟨"java/lang/AbstractStringBuilder", "isLatin1", "()Z"⟩ : MethodName)) hown (hw _ (List.mem_of_getElem? (i := 167) rfl)) (hw _ (List.mem_of_getElem? (i := 124) rfl)) (hw _ (List.mem_of_getElem? (i := 126) rfl)) (hw _ (List.mem_of_getElem? (i := 125) rfl)) (hw _ (List.mem_of_getElem? (i := 79) rfl)) (hw _ (List.mem_of_getElem? (i := 127) rfl)) (by decide) bE (W := 0) (own_c17 l Z a0 hw cs fv gv d1 d2 G h0 n0 O0 b A cap cnt g S) rfl rfl e3 (by decide) (by decide) (g := (mkF m 16 #[.val (.ref t), .val (.ref b), .val .null, .val (.ref A), .val (.int (Int32.ofNat cnt))] [(.ref b)])) rfl (by rw [hml]; rfl) (argsL := []) (rest := []) (lenOf own_pd4 rfl) rfl (Nat.le_of_eq rfl) (hb hby d22_16) rfl
  refine Gd.go (fun _ w_k => st4 _ w_k) ?_
  show Gd _ _ _ _ (T4.setTop (mkF m 19 #[.val (.ref t), .val (.ref b), .val .null, .val (.ref A), .val (.int (Int32.ofNat cnt))] [(.int (1 : Int32))]))
  refine Gd.go (fun _ w_k => XS.ifNo X4.here hx rfl (hb hby d22_19) rfl ((if0 _ _).trans (feq (by decide)).1) w_k) ?_
  show Gd _ _ _ _ (T4.setTop (mkF m 22 #[.val (.ref t), .val (.ref b), .val .null, .val (.ref A), .val (.int (Int32.ofNat cnt))] []))
  refine Gd.go (fun _ w_k => XS.aloadN X4.here hx rfl (hb hby d22_22) rfl rfl w_k) ?_
  show Gd _ _ _ _ (T4.setTop (mkF m 23 #[.val (.ref t), .val (.ref b), .val .null, .val (.ref A), .val (.int (Int32.ofNat cnt))] [(.ref t)]))
  refine Gd.go (fun _ w_k => XS.iconst X4.here hx rfl (hb hby d22_23) w_k) ?_
  show Gd _ _ _ _ (T4.setTop (mkF m 24 #[.val (.ref t), .val (.ref b), .val .null, .val (.ref A), .val (.int (Int32.ofNat cnt))] [(.int (0 : Int32)), (.ref t)]))
  obtain ⟨T5, h5, X5, e5, W5, st5⟩ := putF X4 hx hZ hown (host := "") (Or.inl (hw _ (List.mem_of_getElem? (i := 56) rfl))) Via.refl e4 F2 E0 (Or.inr ⟨(hw _ (List.mem_of_getElem? (i := 57) rfl)), rfl, hnm⟩) (hw _ (List.mem_of_getElem? (i := 46) rfl)) (ty := .byte) (by decide) rfl rfl (g := (mkF m 24 #[.val (.ref t), .val (.ref b), .val .null, .val (.ref A), .val (.int (Int32.ofNat cnt))] [(.int (0 : Int32)), (.ref t)])) rfl rfl (hb hby d22_24)
  refine Gd.go (fun _ w_k => st5 _ w_k) ?_
  have xF6 := E0.wr W5
  have xF7 := F1.other W5 (Or.inr (slot_ne (Or.inr (hw _ (List.mem_of_getElem? (i := 55) rfl))) (Or.inr (hw _ (List.mem_of_getElem? (i := 57) rfl))) (by decide) (t := (.array .byte)) (t' := .byte) (by decide) (by decide)))
  have xF8 := F2.same W5
  have xF9 := bE.wr W5
  have xF10 := bV.other W5 (Or.inl ne)
  have xF11 := bC.other W5 (Or.inl ne)
  have xF12 := bN.other W5 (Or.inl ne)
  have xF13 := bA.other W5 nA
  have xF14 := bX.wr W5
  have xN15 := Fr.snoc X5 N0 gt
  have xO16 := Old.wr O0 W5 gt
  have xZs17 := Nat.le_trans Z0 (Keep.of_wr W5).1
  have xK18 := Keep.wr K0 W5 (Or.inl (List.mem_singleton.mpr rfl))
  show Gd _ _ _ _ (T5.setTop (mkF m 27 #[.val (.ref t), .val (.ref b), .val .null, .val (.ref A), .val (.int (Int32.ofNat cnt))] []))
  refine Gd.go (fun _ w_k => XS.aloadN X5.here hx rfl (hb hby d22_27) rfl rfl w_k) ?_
  show Gd _ _ _ _ (T5.setTop (mkF m 28 #[.val (.ref t), .val (.ref b), .val .null, .val (.ref A), .val (.int (Int32.ofNat cnt))] [(.ref t)]))
  refine Gd.go (fun _ w_k => XS.aloadN X5.here hx rfl (hb hby d22_28) rfl rfl w_k) ?_
  show Gd _ _ _ _ (T5.setTop (mkF m 29 #[.val (.ref t), .val (.ref b), .val .null, .val (.ref A), .val (.int (Int32.ofNat cnt))] [(.ref A), (.ref t)]))
  refine Gd.go (fun _ w_k => XS.iconst X5.here hx rfl (hb hby d22_29) w_k) ?_
  show Gd _ _ _ _ (T5.setTop (mkF m 30 #[.val (.ref t), .val (.ref b), .val .null, .val (.ref A), .val (.int (Int32.ofNat cnt))] [(.int (0 : Int32)), (.ref A), (.ref t)]))
  refine Gd.go (fun _ w_k => XS.iload X5.here hx rfl (hb hby d22_30) rfl w_k) ?_
  show Gd _ _ _ _ (T5.setTop (mkF m 32 #[.val (.ref t), .val (.ref b), .val .null, .val (.ref A), .val (.int (Int32.ofNat cnt))] [(.int (Int32.ofNat cnt)), (.int (0 : Int32)), (.ref A), (.ref t)]))
  have q_t := xF6.lt
  obtain ⟨v19, T19, L19, X19, hQ19, st19⟩ := own_callS X5 hx hZ (y := (⟨"java/util/Arrays", "copyOfRange", "([BII)[B"⟩ : MethodName)) hown (hw _ (List.mem_of_getElem? (i := 168) rfl)) (hw _ (List.mem_of_getElem? (i := 169) rfl)) (hw _ (List.mem_of_getElem? (i := 170) rfl)) (hw _ (List.mem_of_getElem? (i := 171) rfl)) (by decide) (W := 1) (own_c26 l Z a0 hw cs fv gv d1 d2 G h5 n0 xO16 xZs17 A cap cnt g xF13 xF14 sn4 hc1 hc2) rfl rfl e5 (by decide) (by decide) (g := (mkF m 32 #[.val (.ref t), .val (.ref b), .val .null, .val (.ref A), .val (.int (Int32.ofNat cnt))] [(.int (Int32.ofNat cnt)), (.int (0 : Int32)), (.ref A), (.ref t)])) rfl (by rw [hml]; rfl) (argsL := [(.ref A), (.int (0 : Int32)), (.int (Int32.ofNat cnt))]) (rest := [(.ref t)]) (lenOf own_pd14 rfl) rfl (Nat.le_of_eq rfl) (hb hby d22_32) rfl (by decide) (by decide)
  obtain ⟨W, rfl, q9, K9, A9, O9, N9⟩ := hQ19
  refine Gd.go (fun _ w_k => st19 _ w_k) ?_
  show Gd _ _ _ _ (T19.setTop (mkF m 35 #[.val (.ref t), .val (.ref b), .val .null, .val (.ref A), .val (.int (Int32.ofNat cnt))] [(.ref W), (.ref t)]))
  have neW : t ≠ W := Nat.ne_of_lt (Nat.lt_of_lt_of_le q_t q9)
  have gW := Nat.le_trans xZs17 q9
  have kW := Nat.le_trans xK18.1 q9
  have xF20 := xF6.keep K9
  have xF21 := xF7.keep K9 nin0
  have xF22 := xF8.keep K9 nin0
  have xZs23 := Nat.le_trans xZs17 K9.1
  have xN24 := Fr.app xN15 N9
  have xK25 := Keep.trans xK18 K9 all0
  obtain ⟨T26, h26, X26, e26, W26, st26⟩ := putF X19 hx hZ hown (host := "") (Or.inl (hw _ (List.mem_of_getElem? (i := 54) rfl))) Via.refl rfl xF21 xF20 (Or.inr ⟨(hw _ (List.mem_of_getElem? (i := 55) rfl)), rfl, hnm⟩) (hw _ (List.mem_of_getElem? (i := 46) rfl)) (ty := (.array .byte)) (by decide) rfl rfl (g := (mkF m 35 #[.val (.ref t), .val (.ref b), .val .null, .val (.ref A), .val (.int (Int32.ofNat cnt))] [(.ref W), (.ref t)])) rfl rfl (hb hby d22_35)
  refine Gd.go (fun _ w_k => st26 _ w_k) ?_
  have xF27 := xF20.wr W26
  have xF28 := xF21.same W26
  have xF29 := xF22.other W26 (Or.inr (slot_ne (Or.inr (hw _ (List.mem_of_getElem? (i := 57) rfl))) (Or.inr (hw _ (List.mem_of_getElem? (i := 55) rfl))) (by decide) (t := .byte) (t' := (.array .byte)) (by decide) (by decide)))
  have xF30 := A9.other W26 (Ne.symm neW)
  have xN31 := Fr.snoc X26 xN24 gt
  have xO32 := Old.wr O9 W26 gt
  have xZs33 := Nat.le_trans xZs23 (Keep.of_wr W26).1
  have xK34 := Keep.wr xK25 W26 (Or.inl (List.mem_singleton.mpr rfl))
  show Gd _ _ _ _ (T26.setTop (mkF m 38 #[.val (.ref t), .val (.ref b), .val .null, .val (.ref A), .val (.int (Int32.ofNat cnt))] []))
  refine Gd.go (fun _ w_k => XS.goto X26.here hx rfl (pc0 := 38) (pc' := 97) rfl (hb hby d22_38) (by decide) (by decide) w_k) ?_
  show Gd _ _ _ _ (T26.setTop (mkF m 97 #[.val (.ref t), .val (.ref b), .val .null, .val (.ref A), .val (.int (Int32.ofNat cnt))] []))
  refine own_retV X26 hx hret hlk (hb hby d22_97) ?_ (by decide) (by decide)
  rw [e26]
  exact ⟨rfl, xK34, ⟨W, kW, xF27, xF28, xF29, xF30, gt, gW, neW⟩, xO32, xN31⟩
theorem own_pn28 : plainFor (⟨"java/lang/String", "<init>", "(Ljava/lang/StringBuilder;)V"⟩ : MethodName) = true := by first | exact plainFor_of_name (by first | (simp [plainName, overriddenIn, x]; done) | decide +kernel) | decide +kernel
theorem ef_21 (m : MethodId) (q0 : Addr) (q1 : Addr) : entryFrame m #[(.ref q0), (.ref q1)] 2 = mkF m 0 #[.val (.ref q0), .val (.ref q1)] [] := by first | (simp [entryFrame, mkF, argsToLocals, Value.category, maxLocals]; done) | rfl
theorem d21_0 : decode jdk_42_method_53_code 0 = .ok (.aload_n 0, 1) := by decide +kernel
theorem d21_1 : decode jdk_42_method_53_code 1 = .ok (.aload_n 1, 1) := by decide +kernel
theorem d21_2 : decode jdk_42_method_53_code 2 = .ok (.aconst_null, 1) := by decide +kernel
theorem own_pd15 : parseMethodDescriptor "(Ljava/lang/AbstractStringBuilder;Ljava/lang/Void;)V" = some ⟨[(.object "java/lang/AbstractStringBuilder"), (.object "java/lang/Void")], none⟩ := by decide +kernel
theorem d21_3 : decode jdk_42_method_53_code 3 = .ok (.invokespecial 489, 3) := by decide +kernel
theorem d21_6 : decode jdk_42_method_53_code 6 = .ok (.return_, 1) := by decide +kernel
set_option maxRecDepth 65536 in
set_option maxHeartbeats 40000000 in
theorem own_c21 (l : Launch) (Z : State) (a0 : Array Value) (hw : ∀ d ∈ tables_1, d.before a0 Z = true) (cs : Int32) (fv gv : Value) (d1 d2 : Addr) (G : own_G Z cs fv gv d1 d2) (h0 : Heap) (n0 : Nat) (O0 : Old Z n0 h0) (Z0 : n0 ≤ h0.size) (t : Addr) (gt : n0 ≤ t) (E0 : Exa Z h0 t "java/lang/String") (F1 : Fld Z h0 t "java/lang/String" "value" "[B" .null) (F2 : Fld Z h0 t "java/lang/String" "coder" "B" (.int (0 : Int32))) (b A : Addr) (cap cnt : Nat) (g : Nat → Nat) (S : own_SB Z h0 b A n0 cap cnt g) (ne : b ≠ t) (nA : A ≠ t) (hc1 : cnt ≤ cap) (hc2 : cnt ≤ 25) :
    Con l Z (⟨"java/lang/String", "<init>", "(Ljava/lang/StringBuilder;)V"⟩ : MethodName) jdk_42_method_53_code 2 none [] ({ frames := 4, cells := 1, slots := 25, locals := 87 } : Room) 1 25 #[(.ref t), (.ref b)] h0 (fun r h L => r = none ∧ Keep h0 h [t] ∧ (∃ W, h0.size ≤ W ∧ own_T Z h t W n0 cnt g) ∧ Old Z n0 h ∧ Fr n0 L) := by
  refine Con.of own_pn28 ?_
  intro pg ev s_ m bl mt cd s₁ hx hby hml hown hnm hret hlk hZ X0 e0
  rw [ef_21]
  show Gd _ _ _ _ (s₁.setTop (mkF m 0 #[.val (.ref t), .val (.ref b)] []))
  refine Gd.go (fun _ w_k => XS.aloadN X0.here hx rfl (hb hby d21_0) rfl rfl w_k) ?_
  show Gd _ _ _ _ (s₁.setTop (mkF m 1 #[.val (.ref t), .val (.ref b)] [(.ref t)]))
  refine Gd.go (fun _ w_k => XS.aloadN X0.here hx rfl (hb hby d21_1) rfl rfl w_k) ?_
  show Gd _ _ _ _ (s₁.setTop (mkF m 2 #[.val (.ref t), .val (.ref b)] [(.ref b), (.ref t)]))
  refine Gd.go (fun _ w_k => XS.aconstNull X0.here hx rfl (hb hby d21_2) w_k) ?_
  show Gd _ _ _ _ (s₁.setTop (mkF m 3 #[.val (.ref t), .val (.ref b)] [.null, (.ref b), (.ref t)]))
  obtain ⟨v1, T1, L1, X1, hQ1, st1⟩ := own_callI X0 hx hZ (y := (⟨"java/lang/String", "<init>", "(Ljava/lang/AbstractStringBuilder;Ljava/lang/Void;)V"⟩ : MethodName)) rfl hown (hw _ (List.mem_of_getElem? (i := 151) rfl)) (hw _ (List.mem_of_getElem? (i := 152) rfl)) (hw _ (List.mem_of_getElem? (i := 37) rfl)) (hw _ (List.mem_of_getElem? (i := 153) rfl)) (by decide) (b := t) (W := 0) (own_c22 l Z a0 hw cs fv gv d1 d2 G h0 n0 O0 Z0 t gt E0 F1 F2 b A cap cnt g S ne nA hc1 hc2) rfl rfl e0 (by decide) (by decide) (g := (mkF m 3 #[.val (.ref t), .val (.ref b)] [.null, (.ref b), (.ref t)])) rfl (by rw [hml]; rfl) (argsL := [(.ref b), .null]) (rest := []) (lenOf own_pd15 rfl) rfl (Nat.le_of_eq rfl) (hb hby d21_3) rfl (by decide) (by decide)
  obtain ⟨rfl, K9, H9, O9, N9⟩ := hQ1
  refine Gd.go (fun _ w_k => st1 _ w_k) ?_
  show Gd _ _ _ _ (T1.setTop (mkF m 6 #[.val (.ref t), .val (.ref b)] []))
  refine own_retV X1 hx hret hlk (hb hby d21_6) ?_ (by decide) (by decide)
  exact ⟨rfl, K9, H9, O9, by simpa using N9⟩
theorem own_pn29 : plainFor (⟨"java/lang/StringBuilder", "toString", "()Ljava/lang/String;"⟩ : MethodName) = true := by first | exact plainFor_of_name (by first | (simp [plainName, overriddenIn, x]; done) | decide +kernel) | decide +kernel
theorem ef_20 (m : MethodId) (q0 : Addr) : entryFrame m #[(.ref q0)] 1 = mkF m 0 #[.val (.ref q0)] [] := by first | (simp [entryFrame, mkF, argsToLocals, Value.category, maxLocals]; done) | rfl
theorem d20_0 : decode jdk_67_method_42_code 0 = .ok (.new 18, 3) := by decide +kernel
theorem d20_3 : decode jdk_67_method_42_code 3 = .ok (.dup, 1) := by decide +kernel
theorem d20_4 : decode jdk_67_method_42_code 4 = .ok (.aload_n 0, 1) := by decide +kernel
theorem own_pd16 : parseMethodDescriptor "(Ljava/lang/StringBuilder;)V" = some ⟨[(.object "java/lang/StringBuilder")], none⟩ := by decide +kernel
theorem d20_5 : decode jdk_67_method_42_code 5 = .ok (.invokespecial 137, 3) := by decide +kernel
theorem d20_8 : decode jdk_67_method_42_code 8 = .ok (.areturn, 1) := by decide +kernel
set_option maxRecDepth 65536 in
set_option maxHeartbeats 40000000 in
theorem own_c20 (l : Launch) (Z : State) (a0 : Array Value) (hw : ∀ d ∈ tables_1, d.before a0 Z = true) (cs : Int32) (fv gv : Value) (d1 d2 : Addr) (G : own_G Z cs fv gv d1 d2) (h0 : Heap) (n0 : Nat) (O0 : Old Z n0 h0) (Z0 : n0 ≤ h0.size) (b A : Addr) (cap cnt : Nat) (g : Nat → Nat) (S : own_SB Z h0 b A n0 cap cnt g) (hc1 : cnt ≤ cap) (hc2 : cnt ≤ 25) :
    Con l Z (⟨"java/lang/StringBuilder", "toString", "()Ljava/lang/String;"⟩ : MethodName) jdk_67_method_42_code 1 (some (.object "java/lang/String")) [] ({ frames := 5, cells := 2, slots := 29, locals := 101 } : Room) 2 29 #[(.ref b)] h0 (fun r h L => ∃ t W, r = some (.ref t) ∧ h0.size ≤ t ∧ h0.size ≤ W ∧ Keep h0 h [] ∧ own_T Z h t W n0 cnt g ∧ Old Z n0 h ∧ Fr n0 L) := by
  refine Con.of own_pn29 ?_
  intro pg ev s_ m bl mt cd s₁ hx hby hml hown hnm hret hlk hZ X0 e0
  rw [ef_20]
  show Gd _ _ _ _ (s₁.setTop (mkF m 0 #[.val (.ref b)] []))
  have N0 := Fr.nil n0
  have K0 := Keep.refl h0 []
  have S' := S
  obtain ⟨bE, bV, bC, bN, bA, bX, sn1, sn2, sn3, sn4⟩ := S'
  obtain ⟨T1, h1, X1, e1, E1, A1, D1, -, st1⟩ := newO X0 hx hZ hown (hw _ (List.mem_of_getElem? (i := 147) rfl)) (hw _ (List.mem_of_getElem? (i := 46) rfl)) (hw _ (List.mem_of_getElem? (i := 37) rfl)) e0 (g := (mkF m 0 #[.val (.ref b)] [])) rfl (hb hby d20_0) (by decide) (by decide)
  obtain ⟨b1, g1⟩ : ∃ z, z = h0.size := ⟨_, rfl⟩
  rw [← g1] at A1 D1 st1
  have ne_b_b1 : b ≠ b1 := fun q => Nat.lt_irrefl _ (Nat.lt_of_lt_of_le bE.lt (Nat.le_of_eq (q.trans g1).symm))
  have ne_A_b1 : A ≠ b1 := fun q => Nat.lt_irrefl _ (Nat.lt_of_lt_of_le bA.lt (Nat.le_of_eq (q.trans g1).symm))
  have n0_b1 : n0 ≤ b1 := Nat.le_trans Z0 (Nat.le_of_eq g1.symm)
  have kn_b1 : h0.size ≤ b1 := Nat.le_trans K0.1 (Nat.le_of_eq g1.symm)
  have xF2 := bE.ext E1
  have xF3 := bV.ext E1
  have xF4 := bC.ext E1
  have xF5 := bN.ext E1
  have xF6 := bA.ext E1
  have xF7 := bX.ext E1
  have xO8 := Old.ext O0 E1
  have xZs9 := Nat.le_trans Z0 E1.1
  have xK10 := Keep.ext K0 E1
  have xF11 : Fld Z h1 b1 "java/lang/String" "value" "[B" .null := D1 (Or.inr (hw _ (List.mem_of_getElem? (i := 55) rfl))) (ty := (.array .byte)) (by decide)
  have xF12 : Fld Z h1 b1 "java/lang/String" "coder" "B" (.int (0 : Int32)) := D1 (Or.inr (hw _ (List.mem_of_getElem? (i := 57) rfl))) (ty := .byte) (by decide)
  refine Gd.go (fun _ w_k => st1 _ w_k) ?_
  show Gd _ _ _ _ (T1.setTop (mkF m 3 #[.val (.ref b)] [(.ref b1)]))
  refine Gd.go (fun _ w_k => XS.dup X1.here hx rfl (hb hby d20_3) rfl rfl w_k) ?_
  show Gd _ _ _ _ (T1.setTop (mkF m 4 #[.val (.ref b)] [(.ref b1), (.ref b1)]))
  refine Gd.go (fun _ w_k => XS.aloadN X1.here hx rfl (hb hby d20_4) rfl rfl w_k) ?_
  show Gd _ _ _ _ (T1.setTop (mkF m 5 #[.val (.ref b)] [(.ref b), (.ref b1), (.ref b1)]))
  have SS : own_SB Z h1 b A n0 cap cnt g := ⟨xF2, xF3, xF4, xF5, xF6, xF7, sn1, sn2, sn3, sn4⟩
  have k_s := xK10.1
  have kk_s := Nat.le_trans k_s (Nat.le_refl _)
  obtain ⟨v13, T13, L13, X13, hQ13, st13⟩ := own_callI X1 hx hZ (y := (⟨"java/lang/String", "<init>", "(Ljava/lang/StringBuilder;)V"⟩ : MethodName)) rfl hown (hw _ (List.mem_of_getElem? (i := 148) rfl)) (hw _ (List.mem_of_getElem? (i := 149) rfl)) (hw _ (List.mem_of_getElem? (i := 37) rfl)) (hw _ (List.mem_of_getElem? (i := 150) rfl)) (by decide) (b := b1) (W := 1) (own_c21 l Z a0 hw cs fv gv d1 d2 G h1 n0 xO8 xZs9 b1 n0_b1 A1 xF11 xF12 b A cap cnt g SS ne_b_b1 ne_A_b1 hc1 hc2) rfl rfl e1 (by decide) (by decide) (g := (mkF m 5 #[.val (.ref b)] [(.ref b), (.ref b1), (.ref b1)])) rfl (by rw [hml]; rfl) (argsL := [(.ref b)]) (rest := [(.ref b1)]) (lenOf own_pd16 rfl) rfl (Nat.le_of_eq rfl) (hb hby d20_5) rfl (by decide) (by decide)
  obtain ⟨rfl, K9, ⟨W, q9, H9⟩, O9, N9⟩ := hQ13
  refine Gd.go (fun _ w_k => st13 _ w_k) ?_
  show Gd _ _ _ _ (T13.setTop (mkF m 8 #[.val (.ref b)] [(.ref b1)]))
  have KK := Keep.trans xK10 K9 (allS (P := fun z => z ∈ ([] : List Addr) ∨ h0.size ≤ z) (Or.inr kn_b1) all0)
  have NN := Fr.app N0 N9
  refine own_retA X13 hx hret hlk rfl (hb hby d20_8) ?_ (by decide) (by decide)
  exact ⟨b1, W, rfl, kn_b1, Nat.le_trans k_s q9, KK, H9, O9, NN⟩
def own_dl (n k : Nat) : Prop := 1 ≤ k ∧ k ≤ 19 ∧ n < 10 ^ k ∧ (k = 1 ∨ 10 ^ (k - 1) ≤ n)
theorem own_lenlt {n k j : Nat} (hk : own_dl n k) (hj : 1 ≤ j) : n < 10 ^ j ↔ k ≤ j := by
  obtain ⟨h1, h2, h3, h4⟩ := hk
  constructor
  · intro q
    refine Classical.byContradiction fun r => ?_
    have h5 : 10 ^ (k - 1) ≤ n := h4.resolve_left (by omega)
    have h6 : 10 ^ j ≤ 10 ^ (k - 1) := Nat.pow_le_pow_right (by decide) (by omega)
    omega
  · intro q
    have h6 : 10 ^ k ≤ 10 ^ j := Nat.pow_le_pow_right (by decide) q
    omega
theorem own_len_ex {n : Nat} (hn : n < 2 ^ 63) : ∃ k, own_dl n k := by
  have : ∀ m, 1 ≤ m → m ≤ 19 → n < 10 ^ m → ∃ k, own_dl n k := by
    intro m
    induction m with
    | zero => intro h; omega
    | succ m ih =>
      intro h1 h2 h3
      by_cases q : m = 0
      · subst q; exact ⟨1, by decide, by decide, h3, Or.inl rfl⟩
      · by_cases r : n < 10 ^ m
        · exact ih (by omega) (by omega) r
        · exact ⟨m + 1, h1, h2, h3, Or.inr (by simpa using Nat.le_of_not_lt r)⟩
  exact this 19 (by decide) (by decide) (Nat.lt_trans hn (by decide))
theorem own_i64 {n : Nat} (hn : n < 2 ^ 63) : (Int64.ofNat n).toInt = n := Int64.toInt_ofNat_of_lt hn
theorem own_neg {n : Nat} (hn : n < 2 ^ 63) : (-(Int64.ofNat n)).toInt = -(n : Int) := by
  have a := c_lneg (Int64.ofNat n); have r := rng64 (-(Int64.ofNat n)); rw [own_i64 hn] at a; omega
theorem own_neg32 {n : Nat} (hn : n < 2 ^ 31) : (-(Int32.ofNat n)).toInt = -(n : Int) := by
  have a := c_ineg (Int32.ofNat n); have r := rng32 (-(Int32.ofNat n)); rw [own_ofN hn] at a; omega
theorem own_sz {n k j N : Nat} (hk : own_dl n k) (hn : n < 2 ^ 63) (hj : 1 ≤ j) (hN : N = 10 ^ j) {P : Int64} (hP : P.toInt = -(N : Int)) : P < -(Int64.ofNat n) ↔ k ≤ j := by
  rw [Int64.lt_iff_toInt_lt, own_neg hn, hP, ← own_lenlt hk hj, ← hN]; omega
theorem own_lt0 {n : Nat} (hn : n < 2 ^ 63) : ¬ Int64.ofNat n < (0 : Int64) := by rw [Int64.lt_iff_toInt_lt, own_i64 hn]; have : (0 : Int64).toInt = 0 := rfl; omega
def own_dg (n k i : Nat) : Nat := 48 + n / 10 ^ (k - 1 - i) % 10
theorem own_dgb (n k : Nat) : own_by (own_dg n k) := fun i => by unfold own_dg; omega
theorem own_q {w : Nat} (hw : w < 2 ^ 63) : (-(Int64.ofNat w)) / (100 : Int64) = -(Int64.ofNat (w / 100)) := by
  apply Int64.toInt_inj.mp
  have a := c_ldiv (-(Int64.ofNat w)) 100 100 rfl (by decide)
  rw [own_neg hw] at a
  rw [own_neg (by omega)]
  omega
theorem own_r {w : Nat} (hw : w < 2 ^ 63) : ((-(Int64.ofNat (w / 100))) * (100 : Int64) - (-(Int64.ofNat w))).toInt32 = Int32.ofNat (w % 100) := by
  apply Int32.toInt_inj.mp
  have a := c_lmul (-(Int64.ofNat (w / 100))) 100
  have ra := rng64 ((-(Int64.ofNat (w / 100))) * (100 : Int64))
  have e : (100 : Int64).toInt = 100 := rfl
  rw [own_neg (by omega), e] at a
  have b := c_lsub ((-(Int64.ofNat (w / 100))) * (100 : Int64)) (-(Int64.ofNat w))
  have rb := rng64 ((-(Int64.ofNat (w / 100))) * (100 : Int64) - (-(Int64.ofNat w)))
  rw [own_neg hw] at b
  have c := c_l2i ((-(Int64.ofNat (w / 100))) * (100 : Int64) - (-(Int64.ofNat w)))
  have rc := rng32 (((-(Int64.ofNat (w / 100))) * (100 : Int64) - (-(Int64.ofNat w))).toInt32)
  rw [own_ofN (by omega)]
  omega
theorem own_q32 {w : Nat} (hw : w < 2 ^ 31) : (-(Int32.ofNat w)) / (100 : Int32) = -(Int32.ofNat (w / 100)) := by
  apply Int32.toInt_inj.mp
  have a := c_idiv (-(Int32.ofNat w)) 100 100 rfl (by decide)
  rw [own_neg32 hw] at a
  rw [own_neg32 (by omega)]
  omega
theorem own_r32 {w : Nat} (hw : w < 2 ^ 31) : (-(Int32.ofNat (w / 100))) * (100 : Int32) - (-(Int32.ofNat w)) = Int32.ofNat (w % 100) := by
  apply Int32.toInt_inj.mp
  have a := c_imul (-(Int32.ofNat (w / 100))) 100
  have ra := rng32 ((-(Int32.ofNat (w / 100))) * (100 : Int32))
  have e : (100 : Int32).toInt = 100 := rfl
  rw [own_neg32 (by omega), e] at a
  have b := c_isub ((-(Int32.ofNat (w / 100))) * (100 : Int32)) (-(Int32.ofNat w))
  have rb := rng32 ((-(Int32.ofNat (w / 100))) * (100 : Int32) - (-(Int32.ofNat w)))
  rw [own_neg32 hw] at b
  rw [own_ofN (by omega)]
  omega
theorem own_l2i {w : Nat} (hw : w < 2 ^ 31) : (-(Int64.ofNat w)).toInt32 = -(Int32.ofNat w) := by
  apply Int32.toInt_inj.mp
  have c := c_l2i (-(Int64.ofNat w)); have rc := rng32 ((-(Int64.ofNat w)).toInt32)
  rw [own_neg (by omega)] at c
  rw [own_neg32 hw]
  omega
theorem own_lo {w : Nat} (hw : w < 2 ^ 63) : (-2147483648 : Int64) < -(Int64.ofNat w) ↔ w < 2 ^ 31 := by
  rw [Int64.lt_iff_toInt_lt, own_neg hw]; have : (-2147483648 : Int64).toInt = -2147483648 := rfl; omega
theorem own_h100 {w : Nat} (hw : w < 2 ^ 31) : (-100 : Int32) < -(Int32.ofNat w) ↔ w < 100 := by
  rw [Int32.lt_iff_toInt_lt, own_neg32 hw]; have : (-100 : Int32).toInt = -100 := rfl; omega
theorem own_h9 {w : Nat} (hw : w < 2 ^ 31) : -(Int32.ofNat w) < (-9 : Int32) ↔ 9 < w := by
  rw [Int32.lt_iff_toInt_lt, own_neg32 hw]; have : (-9 : Int32).toInt = -9 := rfl; omega
theorem own_dec {p : Nat} (h : 1 ≤ p) : Int32.ofNat p + (-1 : Int32) = Int32.ofNat (p - 1) := by
  have e : p = (p - 1) + 1 := by omega
  conv => lhs; lhs; rw [e, Int32.ofNat_add]
  rw [Int32.add_assoc, show Int32.ofNat 1 + (-1 : Int32) = 0 from by decide, Int32.add_zero]
def own_inv (n k w p : Nat) (f : Nat → Nat) : Prop := own_dl w p ∧ w = n / 10 ^ (k - p) ∧ p ≤ k ∧ (∀ i, p ≤ i → i < k → f i = own_dg n k i) ∧ own_by f
theorem own_inv_next {n k w p : Nat} {f : Nat → Nat} (I : own_inv n k w p f) (h : 100 ≤ w) : own_inv n k (w / 100) (p - 1 - 1) (own_up (own_up f (p - 1) (own_ones (w % 100))) (p - 1 - 1) (own_tens (w % 100))) := by
  obtain ⟨hl, hw, hp, hf, hb'⟩ := I
  have p3 : ¬ p ≤ 2 := fun q => by have := (own_lenlt hl (j := 2) (by decide)).mpr q; omega
  obtain ⟨h1, h2, h3, h4⟩ := hl
  have e1 : 10 ^ p = 10 ^ (p - 1 - 1) * 100 := by rw [show p = (p - 1 - 1) + 2 by omega, Nat.pow_add]; rfl
  have e2 : w / 100 = n / 10 ^ (k - (p - 1 - 1)) := by
    rw [hw, Nat.div_div_eq_div_mul, show k - (p - 1 - 1) = (k - p) + 2 by omega, Nat.pow_add]
  refine ⟨⟨by omega, by omega, by rw [e1] at h3; omega, ?_⟩, e2, by omega, fun i g1 g2 => ?_, own_by_up (own_by_up hb' (by unfold own_ones; omega)) (by unfold own_tens; omega)⟩
  · right
    have h5 := h4.resolve_left (by omega)
    have e3 : 10 ^ (p - 1) = 10 ^ (p - 1 - 1 - 1) * 100 := by rw [show p - 1 = (p - 1 - 1 - 1) + 2 by omega, Nat.pow_add]; rfl
    rw [e3] at h5; omega
  · unfold own_up
    by_cases q1 : i = p - 1 - 1
    · rw [if_pos q1]; unfold own_tens own_dg
      have : n / 10 ^ (k - 1 - i) = w / 10 := by rw [hw, Nat.div_div_eq_div_mul, show k - 1 - i = (k - p) + 1 by omega, Nat.pow_add]
      rw [this]; omega
    · rw [if_neg q1]
      by_cases q2 : i = p - 1
      · rw [if_pos q2]; unfold own_ones own_dg
        rw [show k - 1 - i = k - p by omega, ← hw]; omega
      · rw [if_neg q2]; exact hf i (by omega) g2
theorem own_fin1 {n k w p : Nat} {f : Nat → Nat} (I : own_inv n k w p f) (h : ¬ 9 < w) : ∀ i, i < k → own_up f (p - 1) (own_ones w) i = own_dg n k i := by
  obtain ⟨hl, hw, hp, hf, hb'⟩ := I
  have p1 : p ≤ 1 := (own_lenlt hl (j := 1) (by decide)).mp (by omega)
  have p0 := hl.1
  intro i hi
  unfold own_up
  by_cases q1 : i = p - 1
  · rw [if_pos q1]; unfold own_ones own_dg; rw [show k - 1 - i = k - p by omega, ← hw]
  · rw [if_neg q1]; exact hf i (by omega) hi
theorem own_fin2 {n k w p : Nat} {f : Nat → Nat} (I : own_inv n k w p f) (h : 9 < w) (h2 : w < 100) : 2 ≤ p ∧ ∀ i, i < k → own_up (own_up f (p - 1) (own_ones w)) (p - 1 - 1) (own_tens w) i = own_dg n k i := by
  obtain ⟨hl, hw, hp, hf, hb'⟩ := I
  have p1 : p ≤ 2 := (own_lenlt hl (j := 2) (by decide)).mp (by omega)
  have p0 : ¬ p ≤ 1 := fun q => by have := (own_lenlt hl (j := 1) (by decide)).mpr q; omega
  refine ⟨by omega, fun i hi => ?_⟩
  unfold own_up
  by_cases q1 : i = p - 1 - 1
  · rw [if_pos q1]; unfold own_tens own_dg
    have : n / 10 ^ (k - 1 - i) = w / 10 := by rw [hw, Nat.div_div_eq_div_mul, show k - 1 - i = (k - p) + 1 by omega, Nat.pow_add]
    rw [this]
  · rw [if_neg q1]
    by_cases q2 : i = p - 1
    · rw [if_pos q2]; unfold own_ones own_dg
      rw [show k - 1 - i = k - p by omega, ← hw]
    · rw [if_neg q2]; exact hf i (by omega) hi
theorem own_pn30 : plainFor (⟨"java/lang/Long", "stringSize", "(J)I"⟩ : MethodName) = true := by first | exact plainFor_of_name (by first | (simp [plainName, overriddenIn, x]; done) | decide +kernel) | decide +kernel
theorem ef_4 (m : MethodId) (q0 : Int64) : entryFrame m #[(.long q0)] 6 = mkF m 0 #[.val (.long q0), .second, .unset, .unset, .unset, .unset] [] := by first | (simp [entryFrame, mkF, argsToLocals, Value.category, maxLocals]; done) | rfl
theorem d4_0 : decode jdk_35_method_15_code 0 = .ok (.iconst 1, 1) := by decide +kernel
theorem d4_1 : decode jdk_35_method_15_code 1 = .ok (.istore_n 2, 1) := by decide +kernel
theorem d4_2 : decode jdk_35_method_15_code 2 = .ok (.lload_n 0, 1) := by decide +kernel
theorem d4_3 : decode jdk_35_method_15_code 3 = .ok (.lconst 0, 1) := by decide +kernel
theorem d4_4 : decode jdk_35_method_15_code 4 = .ok (.lcmp, 1) := by decide +kernel
theorem d4_5 : decode jdk_35_method_15_code 5 = .ok (.ifCond .lt 8, 3) := by decide +kernel
theorem d4_8 : decode jdk_35_method_15_code 8 = .ok (.iconst 0, 1) := by decide +kernel
theorem d4_9 : decode jdk_35_method_15_code 9 = .ok (.istore_n 2, 1) := by decide +kernel
theorem d4_10 : decode jdk_35_method_15_code 10 = .ok (.lload_n 0, 1) := by decide +kernel
theorem d4_11 : decode jdk_35_method_15_code 11 = .ok (.lneg, 1) := by decide +kernel
theorem d4_12 : decode jdk_35_method_15_code 12 = .ok (.lstore_n 0, 1) := by decide +kernel
theorem d4_13 : decode jdk_35_method_15_code 13 = .ok (.ldc2_w 140, 3) := by decide +kernel
theorem d4_16 : decode jdk_35_method_15_code 16 = .ok (.lstore_n 3, 1) := by decide +kernel
theorem d4_17 : decode jdk_35_method_15_code 17 = .ok (.iconst 1, 1) := by decide +kernel
theorem d4_18 : decode jdk_35_method_15_code 18 = .ok (.istore 5, 2) := by decide +kernel
theorem d4_20 : decode jdk_35_method_15_code 20 = .ok (.iload 5, 2) := by decide +kernel
theorem d4_22 : decode jdk_35_method_15_code 22 = .ok (.bipush 19, 2) := by decide +kernel
theorem d4_24 : decode jdk_35_method_15_code 24 = .ok (.if_icmp .ge 26, 3) := by decide +kernel
theorem d4_27 : decode jdk_35_method_15_code 27 = .ok (.lload_n 0, 1) := by decide +kernel
theorem d4_28 : decode jdk_35_method_15_code 28 = .ok (.lload_n 3, 1) := by decide +kernel
theorem d4_29 : decode jdk_35_method_15_code 29 = .ok (.lcmp, 1) := by decide +kernel
theorem d4_30 : decode jdk_35_method_15_code 30 = .ok (.ifCond .le 8, 3) := by decide +kernel
theorem d4_33 : decode jdk_35_method_15_code 33 = .ok (.iload 5, 2) := by decide +kernel
theorem d4_35 : decode jdk_35_method_15_code 35 = .ok (.iload_n 2, 1) := by decide +kernel
theorem d4_36 : decode jdk_35_method_15_code 36 = .ok (.iadd, 1) := by decide +kernel
theorem d4_37 : decode jdk_35_method_15_code 37 = .ok (.ireturn, 1) := by decide +kernel
theorem d4_38 : decode jdk_35_method_15_code 38 = .ok (.ldc2_w 53, 3) := by decide +kernel
theorem d4_41 : decode jdk_35_method_15_code 41 = .ok (.lload_n 3, 1) := by decide +kernel
theorem d4_42 : decode jdk_35_method_15_code 42 = .ok (.lmul, 1) := by decide +kernel
theorem d4_43 : decode jdk_35_method_15_code 43 = .ok (.lstore_n 3, 1) := by decide +kernel
theorem d4_44 : decode jdk_35_method_15_code 44 = .ok (.iinc 5 1, 3) := by decide +kernel
theorem d4_47 : decode jdk_35_method_15_code 47 = .ok (.goto (-27), 3) := by decide +kernel
theorem d4_50 : decode jdk_35_method_15_code 50 = .ok (.bipush 19, 2) := by decide +kernel
theorem d4_52 : decode jdk_35_method_15_code 52 = .ok (.iload_n 2, 1) := by decide +kernel
theorem d4_53 : decode jdk_35_method_15_code 53 = .ok (.iadd, 1) := by decide +kernel
theorem d4_54 : decode jdk_35_method_15_code 54 = .ok (.ireturn, 1) := by decide +kernel
set_option maxRecDepth 65536 in
set_option maxHeartbeats 40000000 in
theorem own_c4 (l : Launch) (Z : State) (a0 : Array Value) (hw : ∀ d ∈ tables_1, d.before a0 Z = true) (n k : Nat) (hn : n < 2 ^ 63) (hk : own_dl n k) (h0 : Heap) :
    Con l Z (⟨"java/lang/Long", "stringSize", "(J)I"⟩ : MethodName) jdk_35_method_15_code 6 (some .int) [] ({ frames := 0, cells := 0, slots := 0, locals := 0 } : Room) 0 0 #[(.long (Int64.ofNat n))] h0 (fun r h L => r = some (.int (Int32.ofNat k)) ∧ h = h0 ∧ L = []) := by
  refine Con.of own_pn30 ?_
  intro pg ev s_ m bl mt cd s₁ hx hby hml hown hnm hret hlk hZ X0 e0
  rw [ef_4]
  show Gd _ _ _ _ (s₁.setTop (mkF m 0 #[.val (.long (Int64.ofNat n)), .second, .unset, .unset, .unset, .unset] []))
  refine Gd.go (fun _ w_k => XS.iconst X0.here hx rfl (hb hby d4_0) w_k) ?_
  show Gd _ _ _ _ (s₁.setTop (mkF m 1 #[.val (.long (Int64.ofNat n)), .second, .unset, .unset, .unset, .unset] [(.int (1 : Int32))]))
  refine Gd.go (fun _ w_k => XS.istoreN X0.here hx rfl (hb hby d4_1) rfl (l' := #[.val (.long (Int64.ofNat n)), .second, .val (.int (1 : Int32)), .unset, .unset, .unset]) rfl w_k) ?_
  show Gd _ _ _ _ (s₁.setTop (mkF m 2 #[.val (.long (Int64.ofNat n)), .second, .val (.int (1 : Int32)), .unset, .unset, .unset] []))
  refine Gd.go (fun _ w_k => XS.lloadN X0.here hx rfl (hb hby d4_2) rfl w_k) ?_
  show Gd _ _ _ _ (s₁.setTop (mkF m 3 #[.val (.long (Int64.ofNat n)), .second, .val (.int (1 : Int32)), .unset, .unset, .unset] [(.long (Int64.ofNat n))]))
  refine Gd.go (fun _ w_k => XS.lconst X0.here hx rfl (hb hby d4_3) w_k) ?_
  show Gd _ _ _ _ (s₁.setTop (mkF m 4 #[.val (.long (Int64.ofNat n)), .second, .val (.int (1 : Int32)), .unset, .unset, .unset] [(.long (0 : Int64)), (.long (Int64.ofNat n))]))
  refine Gd.go (fun _ w_k => XS.lcmp X0.here hx rfl (hb hby d4_4) rfl w_k) ?_
  show Gd _ _ _ _ (s₁.setTop (mkF m 5 #[.val (.long (Int64.ofNat n)), .second, .val (.int (1 : Int32)), .unset, .unset, .unset] [(.int (lcmpW (Int64.ofNat n) (0 : Int64)))]))
  refine Gd.go (fun _ w_k => XS.ifNo X0.here hx rfl (hb hby d4_5) rfl ((if0 _ _).trans (flt (fun q => (own_lt0 hn) ((lw_lt _ _).mp q))).1) w_k) ?_
  show Gd _ _ _ _ (s₁.setTop (mkF m 8 #[.val (.long (Int64.ofNat n)), .second, .val (.int (1 : Int32)), .unset, .unset, .unset] []))
  refine Gd.go (fun _ w_k => XS.iconst X0.here hx rfl (hb hby d4_8) w_k) ?_
  show Gd _ _ _ _ (s₁.setTop (mkF m 9 #[.val (.long (Int64.ofNat n)), .second, .val (.int (1 : Int32)), .unset, .unset, .unset] [(.int (0 : Int32))]))
  refine Gd.go (fun _ w_k => XS.istoreN X0.here hx rfl (hb hby d4_9) rfl (l' := #[.val (.long (Int64.ofNat n)), .second, .val (.int (0 : Int32)), .unset, .unset, .unset]) rfl w_k) ?_
  show Gd _ _ _ _ (s₁.setTop (mkF m 10 #[.val (.long (Int64.ofNat n)), .second, .val (.int (0 : Int32)), .unset, .unset, .unset] []))
  refine Gd.go (fun _ w_k => XS.lloadN X0.here hx rfl (hb hby d4_10) rfl w_k) ?_
  show Gd _ _ _ _ (s₁.setTop (mkF m 11 #[.val (.long (Int64.ofNat n)), .second, .val (.int (0 : Int32)), .unset, .unset, .unset] [(.long (Int64.ofNat n))]))
  refine Gd.go (fun _ w_k => XS.lneg X0.here hx rfl (hb hby d4_11) rfl w_k) ?_
  show Gd _ _ _ _ (s₁.setTop (mkF m 12 #[.val (.long (Int64.ofNat n)), .second, .val (.int (0 : Int32)), .unset, .unset, .unset] [(.long (-(Int64.ofNat n)))]))
  refine Gd.go (fun _ w_k => XS.lstoreN X0.here hx rfl (hb hby d4_12) rfl (l' := #[.val (.long (-(Int64.ofNat n))), .second, .val (.int (0 : Int32)), .unset, .unset, .unset]) rfl w_k) ?_
  show Gd _ _ _ _ (s₁.setTop (mkF m 13 #[.val (.long (-(Int64.ofNat n))), .second, .val (.int (0 : Int32)), .unset, .unset, .unset] []))
  refine Gd.go (fun _ w_k => X0.ldc2Long hx hown (mvT hZ (hw _ (List.mem_of_getElem? (i := 35) rfl))) (g := (mkF m 13 #[.val (.long (-(Int64.ofNat n))), .second, .val (.int (0 : Int32)), .unset, .unset, .unset] [])) rfl (hb hby d4_13) _ w_k) ?_
  show Gd _ _ _ _ (s₁.setTop (mkF m 16 #[.val (.long (-(Int64.ofNat n))), .second, .val (.int (0 : Int32)), .unset, .unset, .unset] [(.long (-10 : Int64))]))
  refine Gd.go (fun _ w_k => XS.lstoreN X0.here hx rfl (hb hby d4_16) rfl (l' := #[.val (.long (-(Int64.ofNat n))), .second, .val (.int (0 : Int32)), .val (.long (-10 : Int64)), .second, .unset]) rfl w_k) ?_
  show Gd _ _ _ _ (s₁.setTop (mkF m 17 #[.val (.long (-(Int64.ofNat n))), .second, .val (.int (0 : Int32)), .val (.long (-10 : Int64)), .second, .unset] []))
  refine Gd.go (fun _ w_k => XS.iconst X0.here hx rfl (hb hby d4_17) w_k) ?_
  show Gd _ _ _ _ (s₁.setTop (mkF m 18 #[.val (.long (-(Int64.ofNat n))), .second, .val (.int (0 : Int32)), .val (.long (-10 : Int64)), .second, .unset] [(.int (1 : Int32))]))
  refine Gd.go (fun _ w_k => XS.istore X0.here hx rfl (hb hby d4_18) rfl (l' := #[.val (.long (-(Int64.ofNat n))), .second, .val (.int (0 : Int32)), .val (.long (-10 : Int64)), .second, .val (.int (1 : Int32))]) rfl w_k) ?_
  show Gd _ _ _ _ (s₁.setTop (mkF m 20 #[.val (.long (-(Int64.ofNat n))), .second, .val (.int (0 : Int32)), .val (.long (-10 : Int64)), .second, .val (.int (1 : Int32))] []))
  refine Gd.go (fun _ w_k => XS.iload X0.here hx rfl (hb hby d4_20) rfl w_k) ?_
  show Gd _ _ _ _ (s₁.setTop (mkF m 22 #[.val (.long (-(Int64.ofNat n))), .second, .val (.int (0 : Int32)), .val (.long (-10 : Int64)), .second, .val (.int (1 : Int32))] [(.int (1 : Int32))]))
  refine Gd.go (fun _ w_k => XS.bipush X0.here hx rfl (hb hby d4_22) w_k) ?_
  show Gd _ _ _ _ (s₁.setTop (mkF m 24 #[.val (.long (-(Int64.ofNat n))), .second, .val (.int (0 : Int32)), .val (.long (-10 : Int64)), .second, .val (.int (1 : Int32))] [(.int (19 : Int32)), (.int (1 : Int32))]))
  refine Gd.go (fun _ w_k => XS.icmpNo X0.here hx rfl (hb hby d4_24) rfl (tlt (by decide)).2.1 w_k) ?_
  show Gd _ _ _ _ (s₁.setTop (mkF m 27 #[.val (.long (-(Int64.ofNat n))), .second, .val (.int (0 : Int32)), .val (.long (-10 : Int64)), .second, .val (.int (1 : Int32))] []))
  refine Gd.go (fun _ w_k => XS.lloadN X0.here hx rfl (hb hby d4_27) rfl w_k) ?_
  show Gd _ _ _ _ (s₁.setTop (mkF m 28 #[.val (.long (-(Int64.ofNat n))), .second, .val (.int (0 : Int32)), .val (.long (-10 : Int64)), .second, .val (.int (1 : Int32))] [(.long (-(Int64.ofNat n)))]))
  refine Gd.go (fun _ w_k => XS.lloadN X0.here hx rfl (hb hby d4_28) rfl w_k) ?_
  show Gd _ _ _ _ (s₁.setTop (mkF m 29 #[.val (.long (-(Int64.ofNat n))), .second, .val (.int (0 : Int32)), .val (.long (-10 : Int64)), .second, .val (.int (1 : Int32))] [(.long (-10 : Int64)), (.long (-(Int64.ofNat n)))]))
  refine Gd.go (fun _ w_k => XS.lcmp X0.here hx rfl (hb hby d4_29) rfl w_k) ?_
  show Gd _ _ _ _ (s₁.setTop (mkF m 30 #[.val (.long (-(Int64.ofNat n))), .second, .val (.int (0 : Int32)), .val (.long (-10 : Int64)), .second, .val (.int (1 : Int32))] [(.int (lcmpW (-(Int64.ofNat n)) (-10 : Int64)))]))
  by_cases hc1 : (-10 : Int64) < (-(Int64.ofNat n))
  · refine Gd.go (fun _ w_k => XS.ifNo X0.here hx rfl (hb hby d4_30) rfl ((if0 _ _).trans (tlt ((lw_gt _ _).mpr hc1)).2.2.2) w_k) ?_
    show Gd _ _ _ _ (s₁.setTop (mkF m 33 #[.val (.long (-(Int64.ofNat n))), .second, .val (.int (0 : Int32)), .val (.long (-10 : Int64)), .second, .val (.int (1 : Int32))] []))
    refine Gd.go (fun _ w_k => XS.iload X0.here hx rfl (hb hby d4_33) rfl w_k) ?_
    show Gd _ _ _ _ (s₁.setTop (mkF m 35 #[.val (.long (-(Int64.ofNat n))), .second, .val (.int (0 : Int32)), .val (.long (-10 : Int64)), .second, .val (.int (1 : Int32))] [(.int (1 : Int32))]))
    refine Gd.go (fun _ w_k => XS.iloadN X0.here hx rfl (hb hby d4_35) rfl w_k) ?_
    show Gd _ _ _ _ (s₁.setTop (mkF m 36 #[.val (.long (-(Int64.ofNat n))), .second, .val (.int (0 : Int32)), .val (.long (-10 : Int64)), .second, .val (.int (1 : Int32))] [(.int (0 : Int32)), (.int (1 : Int32))]))
    refine Gd.go (fun _ w_k => XS.iadd X0.here hx rfl (hb hby d4_36) rfl w_k) ?_
    show Gd _ _ _ _ (s₁.setTop (mkF m 37 #[.val (.long (-(Int64.ofNat n))), .second, .val (.int (0 : Int32)), .val (.long (-10 : Int64)), .second, .val (.int (1 : Int32))] [(.int ((1 : Int32) + (0 : Int32)))]))
    refine own_retI X0 hx hret hlk (hb hby d4_37) ?_ (by decide) (by decide)
    have u1 := (own_sz hk hn (j := 1) (N := 10) (by decide) (by decide) (P := (-10 : Int64)) (by decide)).mp hc1
    have u3 := hk.1
    have u4 := hk.2.1
    obtain rfl : k = 1 := by omega
    exact ⟨rfl, e0, rfl⟩
  · refine Gd.go (fun _ w_k => XS.ifYes X0.here hx rfl (pc0 := 30) (pc' := 38) rfl (hb hby d4_30) rfl ((if0 _ _).trans (flt (fun q => hc1 ((lw_gt _ _).mp q))).2.2.2) (by decide) (by decide) w_k) ?_
    show Gd _ _ _ _ (s₁.setTop (mkF m 38 #[.val (.long (-(Int64.ofNat n))), .second, .val (.int (0 : Int32)), .val (.long (-10 : Int64)), .second, .val (.int (1 : Int32))] []))
    refine Gd.go (fun _ w_k => X0.ldc2Long hx hown (mvT hZ (hw _ (List.mem_of_getElem? (i := 202) rfl))) (g := (mkF m 38 #[.val (.long (-(Int64.ofNat n))), .second, .val (.int (0 : Int32)), .val (.long (-10 : Int64)), .second, .val (.int (1 : Int32))] [])) rfl (hb hby d4_38) _ w_k) ?_
    show Gd _ _ _ _ (s₁.setTop (mkF m 41 #[.val (.long (-(Int64.ofNat n))), .second, .val (.int (0 : Int32)), .val (.long (-10 : Int64)), .second, .val (.int (1 : Int32))] [(.long (10 : Int64))]))
    refine Gd.go (fun _ w_k => XS.lloadN X0.here hx rfl (hb hby d4_41) rfl w_k) ?_
    show Gd _ _ _ _ (s₁.setTop (mkF m 42 #[.val (.long (-(Int64.ofNat n))), .second, .val (.int (0 : Int32)), .val (.long (-10 : Int64)), .second, .val (.int (1 : Int32))] [(.long (-10 : Int64)), (.long (10 : Int64))]))
    refine Gd.go (fun _ w_k => XS.lmul X0.here hx rfl (hb hby d4_42) rfl w_k) ?_
    show Gd _ _ _ _ (s₁.setTop (mkF m 43 #[.val (.long (-(Int64.ofNat n))), .second, .val (.int (0 : Int32)), .val (.long (-10 : Int64)), .second, .val (.int (1 : Int32))] [(.long ((10 : Int64) * (-10 : Int64)))]))
    refine Gd.go (fun _ w_k => XS.lstoreN X0.here hx rfl (hb hby d4_43) rfl (l' := #[.val (.long (-(Int64.ofNat n))), .second, .val (.int (0 : Int32)), .val (.long ((10 : Int64) * (-10 : Int64))), .second, .val (.int (1 : Int32))]) rfl w_k) ?_
    show Gd _ _ _ _ (s₁.setTop (mkF m 44 #[.val (.long (-(Int64.ofNat n))), .second, .val (.int (0 : Int32)), .val (.long ((10 : Int64) * (-10 : Int64))), .second, .val (.int (1 : Int32))] []))
    refine Gd.go (fun _ w_k => XS.iinc X0.here hx rfl (hb hby d4_44) rfl (l' := #[.val (.long (-(Int64.ofNat n))), .second, .val (.int (0 : Int32)), .val (.long ((10 : Int64) * (-10 : Int64))), .second, .val (.int ((1 : Int32) + (1 : Int32)))]) rfl w_k) ?_
    show Gd _ _ _ _ (s₁.setTop (mkF m 47 #[.val (.long (-(Int64.ofNat n))), .second, .val (.int (0 : Int32)), .val (.long ((10 : Int64) * (-10 : Int64))), .second, .val (.int ((1 : Int32) + (1 : Int32)))] []))
    refine Gd.go (fun _ w_k => XS.goto X0.here hx rfl (pc0 := 47) (pc' := 20) rfl (hb hby d4_47) (by decide) (by decide) w_k) ?_
    show Gd _ _ _ _ (s₁.setTop (mkF m 20 #[.val (.long (-(Int64.ofNat n))), .second, .val (.int (0 : Int32)), .val (.long ((10 : Int64) * (-10 : Int64))), .second, .val (.int ((1 : Int32) + (1 : Int32)))] []))
    rw [show ((10 : Int64) * (-10 : Int64)) = (-100 : Int64) from by decide, show ((1 : Int32) + (1 : Int32)) = (2 : Int32) from by decide]
    show Gd _ _ _ _ (s₁.setTop (mkF m 20 #[.val (.long (-(Int64.ofNat n))), .second, .val (.int (0 : Int32)), .val (.long (-100 : Int64)), .second, .val (.int (2 : Int32))] []))
    refine Gd.go (fun _ w_k => XS.iload X0.here hx rfl (hb hby d4_20) rfl w_k) ?_
    show Gd _ _ _ _ (s₁.setTop (mkF m 22 #[.val (.long (-(Int64.ofNat n))), .second, .val (.int (0 : Int32)), .val (.long (-100 : Int64)), .second, .val (.int (2 : Int32))] [(.int (2 : Int32))]))
    refine Gd.go (fun _ w_k => XS.bipush X0.here hx rfl (hb hby d4_22) w_k) ?_
    show Gd _ _ _ _ (s₁.setTop (mkF m 24 #[.val (.long (-(Int64.ofNat n))), .second, .val (.int (0 : Int32)), .val (.long (-100 : Int64)), .second, .val (.int (2 : Int32))] [(.int (19 : Int32)), (.int (2 : Int32))]))
    refine Gd.go (fun _ w_k => XS.icmpNo X0.here hx rfl (hb hby d4_24) rfl (tlt (by decide)).2.1 w_k) ?_
    show Gd _ _ _ _ (s₁.setTop (mkF m 27 #[.val (.long (-(Int64.ofNat n))), .second, .val (.int (0 : Int32)), .val (.long (-100 : Int64)), .second, .val (.int (2 : Int32))] []))
    refine Gd.go (fun _ w_k => XS.lloadN X0.here hx rfl (hb hby d4_27) rfl w_k) ?_
    show Gd _ _ _ _ (s₁.setTop (mkF m 28 #[.val (.long (-(Int64.ofNat n))), .second, .val (.int (0 : Int32)), .val (.long (-100 : Int64)), .second, .val (.int (2 : Int32))] [(.long (-(Int64.ofNat n)))]))
    refine Gd.go (fun _ w_k => XS.lloadN X0.here hx rfl (hb hby d4_28) rfl w_k) ?_
    show Gd _ _ _ _ (s₁.setTop (mkF m 29 #[.val (.long (-(Int64.ofNat n))), .second, .val (.int (0 : Int32)), .val (.long (-100 : Int64)), .second, .val (.int (2 : Int32))] [(.long (-100 : Int64)), (.long (-(Int64.ofNat n)))]))
    refine Gd.go (fun _ w_k => XS.lcmp X0.here hx rfl (hb hby d4_29) rfl w_k) ?_
    show Gd _ _ _ _ (s₁.setTop (mkF m 30 #[.val (.long (-(Int64.ofNat n))), .second, .val (.int (0 : Int32)), .val (.long (-100 : Int64)), .second, .val (.int (2 : Int32))] [(.int (lcmpW (-(Int64.ofNat n)) (-100 : Int64)))]))
    by_cases hc2 : (-100 : Int64) < (-(Int64.ofNat n))
    · refine Gd.go (fun _ w_k => XS.ifNo X0.here hx rfl (hb hby d4_30) rfl ((if0 _ _).trans (tlt ((lw_gt _ _).mpr hc2)).2.2.2) w_k) ?_
      show Gd _ _ _ _ (s₁.setTop (mkF m 33 #[.val (.long (-(Int64.ofNat n))), .second, .val (.int (0 : Int32)), .val (.long (-100 : Int64)), .second, .val (.int (2 : Int32))] []))
      refine Gd.go (fun _ w_k => XS.iload X0.here hx rfl (hb hby d4_33) rfl w_k) ?_
      show Gd _ _ _ _ (s₁.setTop (mkF m 35 #[.val (.long (-(Int64.ofNat n))), .second, .val (.int (0 : Int32)), .val (.long (-100 : Int64)), .second, .val (.int (2 : Int32))] [(.int (2 : Int32))]))
      refine Gd.go (fun _ w_k => XS.iloadN X0.here hx rfl (hb hby d4_35) rfl w_k) ?_
      show Gd _ _ _ _ (s₁.setTop (mkF m 36 #[.val (.long (-(Int64.ofNat n))), .second, .val (.int (0 : Int32)), .val (.long (-100 : Int64)), .second, .val (.int (2 : Int32))] [(.int (0 : Int32)), (.int (2 : Int32))]))
      refine Gd.go (fun _ w_k => XS.iadd X0.here hx rfl (hb hby d4_36) rfl w_k) ?_
      show Gd _ _ _ _ (s₁.setTop (mkF m 37 #[.val (.long (-(Int64.ofNat n))), .second, .val (.int (0 : Int32)), .val (.long (-100 : Int64)), .second, .val (.int (2 : Int32))] [(.int ((2 : Int32) + (0 : Int32)))]))
      refine own_retI X0 hx hret hlk (hb hby d4_37) ?_ (by decide) (by decide)
      have u1 := (own_sz hk hn (j := 2) (N := 100) (by decide) (by decide) (P := (-100 : Int64)) (by decide)).mp hc2
      have u2 : ¬ k ≤ 1 := fun q => hc1 ((own_sz hk hn (j := 1) (N := 10) (by decide) (by decide) (P := (-10 : Int64)) (by decide)).mpr q)
      have u3 := hk.1
      have u4 := hk.2.1
      obtain rfl : k = 2 := by omega
      exact ⟨rfl, e0, rfl⟩
    · refine Gd.go (fun _ w_k => XS.ifYes X0.here hx rfl (pc0 := 30) (pc' := 38) rfl (hb hby d4_30) rfl ((if0 _ _).trans (flt (fun q => hc2 ((lw_gt _ _).mp q))).2.2.2) (by decide) (by decide) w_k) ?_
      show Gd _ _ _ _ (s₁.setTop (mkF m 38 #[.val (.long (-(Int64.ofNat n))), .second, .val (.int (0 : Int32)), .val (.long (-100 : Int64)), .second, .val (.int (2 : Int32))] []))
      refine Gd.go (fun _ w_k => X0.ldc2Long hx hown (mvT hZ (hw _ (List.mem_of_getElem? (i := 202) rfl))) (g := (mkF m 38 #[.val (.long (-(Int64.ofNat n))), .second, .val (.int (0 : Int32)), .val (.long (-100 : Int64)), .second, .val (.int (2 : Int32))] [])) rfl (hb hby d4_38) _ w_k) ?_
      show Gd _ _ _ _ (s₁.setTop (mkF m 41 #[.val (.long (-(Int64.ofNat n))), .second, .val (.int (0 : Int32)), .val (.long (-100 : Int64)), .second, .val (.int (2 : Int32))] [(.long (10 : Int64))]))
      refine Gd.go (fun _ w_k => XS.lloadN X0.here hx rfl (hb hby d4_41) rfl w_k) ?_
      show Gd _ _ _ _ (s₁.setTop (mkF m 42 #[.val (.long (-(Int64.ofNat n))), .second, .val (.int (0 : Int32)), .val (.long (-100 : Int64)), .second, .val (.int (2 : Int32))] [(.long (-100 : Int64)), (.long (10 : Int64))]))
      refine Gd.go (fun _ w_k => XS.lmul X0.here hx rfl (hb hby d4_42) rfl w_k) ?_
      show Gd _ _ _ _ (s₁.setTop (mkF m 43 #[.val (.long (-(Int64.ofNat n))), .second, .val (.int (0 : Int32)), .val (.long (-100 : Int64)), .second, .val (.int (2 : Int32))] [(.long ((10 : Int64) * (-100 : Int64)))]))
      refine Gd.go (fun _ w_k => XS.lstoreN X0.here hx rfl (hb hby d4_43) rfl (l' := #[.val (.long (-(Int64.ofNat n))), .second, .val (.int (0 : Int32)), .val (.long ((10 : Int64) * (-100 : Int64))), .second, .val (.int (2 : Int32))]) rfl w_k) ?_
      show Gd _ _ _ _ (s₁.setTop (mkF m 44 #[.val (.long (-(Int64.ofNat n))), .second, .val (.int (0 : Int32)), .val (.long ((10 : Int64) * (-100 : Int64))), .second, .val (.int (2 : Int32))] []))
      refine Gd.go (fun _ w_k => XS.iinc X0.here hx rfl (hb hby d4_44) rfl (l' := #[.val (.long (-(Int64.ofNat n))), .second, .val (.int (0 : Int32)), .val (.long ((10 : Int64) * (-100 : Int64))), .second, .val (.int ((2 : Int32) + (1 : Int32)))]) rfl w_k) ?_
      show Gd _ _ _ _ (s₁.setTop (mkF m 47 #[.val (.long (-(Int64.ofNat n))), .second, .val (.int (0 : Int32)), .val (.long ((10 : Int64) * (-100 : Int64))), .second, .val (.int ((2 : Int32) + (1 : Int32)))] []))
      refine Gd.go (fun _ w_k => XS.goto X0.here hx rfl (pc0 := 47) (pc' := 20) rfl (hb hby d4_47) (by decide) (by decide) w_k) ?_
      show Gd _ _ _ _ (s₁.setTop (mkF m 20 #[.val (.long (-(Int64.ofNat n))), .second, .val (.int (0 : Int32)), .val (.long ((10 : Int64) * (-100 : Int64))), .second, .val (.int ((2 : Int32) + (1 : Int32)))] []))
      rw [show ((10 : Int64) * (-100 : Int64)) = (-1000 : Int64) from by decide, show ((2 : Int32) + (1 : Int32)) = (3 : Int32) from by decide]
      show Gd _ _ _ _ (s₁.setTop (mkF m 20 #[.val (.long (-(Int64.ofNat n))), .second, .val (.int (0 : Int32)), .val (.long (-1000 : Int64)), .second, .val (.int (3 : Int32))] []))
      refine Gd.go (fun _ w_k => XS.iload X0.here hx rfl (hb hby d4_20) rfl w_k) ?_
      show Gd _ _ _ _ (s₁.setTop (mkF m 22 #[.val (.long (-(Int64.ofNat n))), .second, .val (.int (0 : Int32)), .val (.long (-1000 : Int64)), .second, .val (.int (3 : Int32))] [(.int (3 : Int32))]))
      refine Gd.go (fun _ w_k => XS.bipush X0.here hx rfl (hb hby d4_22) w_k) ?_
      show Gd _ _ _ _ (s₁.setTop (mkF m 24 #[.val (.long (-(Int64.ofNat n))), .second, .val (.int (0 : Int32)), .val (.long (-1000 : Int64)), .second, .val (.int (3 : Int32))] [(.int (19 : Int32)), (.int (3 : Int32))]))
      refine Gd.go (fun _ w_k => XS.icmpNo X0.here hx rfl (hb hby d4_24) rfl (tlt (by decide)).2.1 w_k) ?_
      show Gd _ _ _ _ (s₁.setTop (mkF m 27 #[.val (.long (-(Int64.ofNat n))), .second, .val (.int (0 : Int32)), .val (.long (-1000 : Int64)), .second, .val (.int (3 : Int32))] []))
      refine Gd.go (fun _ w_k => XS.lloadN X0.here hx rfl (hb hby d4_27) rfl w_k) ?_
      show Gd _ _ _ _ (s₁.setTop (mkF m 28 #[.val (.long (-(Int64.ofNat n))), .second, .val (.int (0 : Int32)), .val (.long (-1000 : Int64)), .second, .val (.int (3 : Int32))] [(.long (-(Int64.ofNat n)))]))
      refine Gd.go (fun _ w_k => XS.lloadN X0.here hx rfl (hb hby d4_28) rfl w_k) ?_
      show Gd _ _ _ _ (s₁.setTop (mkF m 29 #[.val (.long (-(Int64.ofNat n))), .second, .val (.int (0 : Int32)), .val (.long (-1000 : Int64)), .second, .val (.int (3 : Int32))] [(.long (-1000 : Int64)), (.long (-(Int64.ofNat n)))]))
      refine Gd.go (fun _ w_k => XS.lcmp X0.here hx rfl (hb hby d4_29) rfl w_k) ?_
      show Gd _ _ _ _ (s₁.setTop (mkF m 30 #[.val (.long (-(Int64.ofNat n))), .second, .val (.int (0 : Int32)), .val (.long (-1000 : Int64)), .second, .val (.int (3 : Int32))] [(.int (lcmpW (-(Int64.ofNat n)) (-1000 : Int64)))]))
      by_cases hc3 : (-1000 : Int64) < (-(Int64.ofNat n))
      · refine Gd.go (fun _ w_k => XS.ifNo X0.here hx rfl (hb hby d4_30) rfl ((if0 _ _).trans (tlt ((lw_gt _ _).mpr hc3)).2.2.2) w_k) ?_
        show Gd _ _ _ _ (s₁.setTop (mkF m 33 #[.val (.long (-(Int64.ofNat n))), .second, .val (.int (0 : Int32)), .val (.long (-1000 : Int64)), .second, .val (.int (3 : Int32))] []))
        refine Gd.go (fun _ w_k => XS.iload X0.here hx rfl (hb hby d4_33) rfl w_k) ?_
        show Gd _ _ _ _ (s₁.setTop (mkF m 35 #[.val (.long (-(Int64.ofNat n))), .second, .val (.int (0 : Int32)), .val (.long (-1000 : Int64)), .second, .val (.int (3 : Int32))] [(.int (3 : Int32))]))
        refine Gd.go (fun _ w_k => XS.iloadN X0.here hx rfl (hb hby d4_35) rfl w_k) ?_
        show Gd _ _ _ _ (s₁.setTop (mkF m 36 #[.val (.long (-(Int64.ofNat n))), .second, .val (.int (0 : Int32)), .val (.long (-1000 : Int64)), .second, .val (.int (3 : Int32))] [(.int (0 : Int32)), (.int (3 : Int32))]))
        refine Gd.go (fun _ w_k => XS.iadd X0.here hx rfl (hb hby d4_36) rfl w_k) ?_
        show Gd _ _ _ _ (s₁.setTop (mkF m 37 #[.val (.long (-(Int64.ofNat n))), .second, .val (.int (0 : Int32)), .val (.long (-1000 : Int64)), .second, .val (.int (3 : Int32))] [(.int ((3 : Int32) + (0 : Int32)))]))
        refine own_retI X0 hx hret hlk (hb hby d4_37) ?_ (by decide) (by decide)
        have u1 := (own_sz hk hn (j := 3) (N := 1000) (by decide) (by decide) (P := (-1000 : Int64)) (by decide)).mp hc3
        have u2 : ¬ k ≤ 2 := fun q => hc2 ((own_sz hk hn (j := 2) (N := 100) (by decide) (by decide) (P := (-100 : Int64)) (by decide)).mpr q)
        have u3 := hk.1
        have u4 := hk.2.1
        obtain rfl : k = 3 := by omega
        exact ⟨rfl, e0, rfl⟩
      · refine Gd.go (fun _ w_k => XS.ifYes X0.here hx rfl (pc0 := 30) (pc' := 38) rfl (hb hby d4_30) rfl ((if0 _ _).trans (flt (fun q => hc3 ((lw_gt _ _).mp q))).2.2.2) (by decide) (by decide) w_k) ?_
        show Gd _ _ _ _ (s₁.setTop (mkF m 38 #[.val (.long (-(Int64.ofNat n))), .second, .val (.int (0 : Int32)), .val (.long (-1000 : Int64)), .second, .val (.int (3 : Int32))] []))
        refine Gd.go (fun _ w_k => X0.ldc2Long hx hown (mvT hZ (hw _ (List.mem_of_getElem? (i := 202) rfl))) (g := (mkF m 38 #[.val (.long (-(Int64.ofNat n))), .second, .val (.int (0 : Int32)), .val (.long (-1000 : Int64)), .second, .val (.int (3 : Int32))] [])) rfl (hb hby d4_38) _ w_k) ?_
        show Gd _ _ _ _ (s₁.setTop (mkF m 41 #[.val (.long (-(Int64.ofNat n))), .second, .val (.int (0 : Int32)), .val (.long (-1000 : Int64)), .second, .val (.int (3 : Int32))] [(.long (10 : Int64))]))
        refine Gd.go (fun _ w_k => XS.lloadN X0.here hx rfl (hb hby d4_41) rfl w_k) ?_
        show Gd _ _ _ _ (s₁.setTop (mkF m 42 #[.val (.long (-(Int64.ofNat n))), .second, .val (.int (0 : Int32)), .val (.long (-1000 : Int64)), .second, .val (.int (3 : Int32))] [(.long (-1000 : Int64)), (.long (10 : Int64))]))
        refine Gd.go (fun _ w_k => XS.lmul X0.here hx rfl (hb hby d4_42) rfl w_k) ?_
        show Gd _ _ _ _ (s₁.setTop (mkF m 43 #[.val (.long (-(Int64.ofNat n))), .second, .val (.int (0 : Int32)), .val (.long (-1000 : Int64)), .second, .val (.int (3 : Int32))] [(.long ((10 : Int64) * (-1000 : Int64)))]))
        refine Gd.go (fun _ w_k => XS.lstoreN X0.here hx rfl (hb hby d4_43) rfl (l' := #[.val (.long (-(Int64.ofNat n))), .second, .val (.int (0 : Int32)), .val (.long ((10 : Int64) * (-1000 : Int64))), .second, .val (.int (3 : Int32))]) rfl w_k) ?_
        show Gd _ _ _ _ (s₁.setTop (mkF m 44 #[.val (.long (-(Int64.ofNat n))), .second, .val (.int (0 : Int32)), .val (.long ((10 : Int64) * (-1000 : Int64))), .second, .val (.int (3 : Int32))] []))
        refine Gd.go (fun _ w_k => XS.iinc X0.here hx rfl (hb hby d4_44) rfl (l' := #[.val (.long (-(Int64.ofNat n))), .second, .val (.int (0 : Int32)), .val (.long ((10 : Int64) * (-1000 : Int64))), .second, .val (.int ((3 : Int32) + (1 : Int32)))]) rfl w_k) ?_
        show Gd _ _ _ _ (s₁.setTop (mkF m 47 #[.val (.long (-(Int64.ofNat n))), .second, .val (.int (0 : Int32)), .val (.long ((10 : Int64) * (-1000 : Int64))), .second, .val (.int ((3 : Int32) + (1 : Int32)))] []))
        refine Gd.go (fun _ w_k => XS.goto X0.here hx rfl (pc0 := 47) (pc' := 20) rfl (hb hby d4_47) (by decide) (by decide) w_k) ?_
        show Gd _ _ _ _ (s₁.setTop (mkF m 20 #[.val (.long (-(Int64.ofNat n))), .second, .val (.int (0 : Int32)), .val (.long ((10 : Int64) * (-1000 : Int64))), .second, .val (.int ((3 : Int32) + (1 : Int32)))] []))
        rw [show ((10 : Int64) * (-1000 : Int64)) = (-10000 : Int64) from by decide, show ((3 : Int32) + (1 : Int32)) = (4 : Int32) from by decide]
        show Gd _ _ _ _ (s₁.setTop (mkF m 20 #[.val (.long (-(Int64.ofNat n))), .second, .val (.int (0 : Int32)), .val (.long (-10000 : Int64)), .second, .val (.int (4 : Int32))] []))
        refine Gd.go (fun _ w_k => XS.iload X0.here hx rfl (hb hby d4_20) rfl w_k) ?_
        show Gd _ _ _ _ (s₁.setTop (mkF m 22 #[.val (.long (-(Int64.ofNat n))), .second, .val (.int (0 : Int32)), .val (.long (-10000 : Int64)), .second, .val (.int (4 : Int32))] [(.int (4 : Int32))]))
        refine Gd.go (fun _ w_k => XS.bipush X0.here hx rfl (hb hby d4_22) w_k) ?_
        show Gd _ _ _ _ (s₁.setTop (mkF m 24 #[.val (.long (-(Int64.ofNat n))), .second, .val (.int (0 : Int32)), .val (.long (-10000 : Int64)), .second, .val (.int (4 : Int32))] [(.int (19 : Int32)), (.int (4 : Int32))]))
        refine Gd.go (fun _ w_k => XS.icmpNo X0.here hx rfl (hb hby d4_24) rfl (tlt (by decide)).2.1 w_k) ?_
        show Gd _ _ _ _ (s₁.setTop (mkF m 27 #[.val (.long (-(Int64.ofNat n))), .second, .val (.int (0 : Int32)), .val (.long (-10000 : Int64)), .second, .val (.int (4 : Int32))] []))
        refine Gd.go (fun _ w_k => XS.lloadN X0.here hx rfl (hb hby d4_27) rfl w_k) ?_
        show Gd _ _ _ _ (s₁.setTop (mkF m 28 #[.val (.long (-(Int64.ofNat n))), .second, .val (.int (0 : Int32)), .val (.long (-10000 : Int64)), .second, .val (.int (4 : Int32))] [(.long (-(Int64.ofNat n)))]))
        refine Gd.go (fun _ w_k => XS.lloadN X0.here hx rfl (hb hby d4_28) rfl w_k) ?_
        show Gd _ _ _ _ (s₁.setTop (mkF m 29 #[.val (.long (-(Int64.ofNat n))), .second, .val (.int (0 : Int32)), .val (.long (-10000 : Int64)), .second, .val (.int (4 : Int32))] [(.long (-10000 : Int64)), (.long (-(Int64.ofNat n)))]))
        refine Gd.go (fun _ w_k => XS.lcmp X0.here hx rfl (hb hby d4_29) rfl w_k) ?_
        show Gd _ _ _ _ (s₁.setTop (mkF m 30 #[.val (.long (-(Int64.ofNat n))), .second, .val (.int (0 : Int32)), .val (.long (-10000 : Int64)), .second, .val (.int (4 : Int32))] [(.int (lcmpW (-(Int64.ofNat n)) (-10000 : Int64)))]))
        by_cases hc4 : (-10000 : Int64) < (-(Int64.ofNat n))
        · refine Gd.go (fun _ w_k => XS.ifNo X0.here hx rfl (hb hby d4_30) rfl ((if0 _ _).trans (tlt ((lw_gt _ _).mpr hc4)).2.2.2) w_k) ?_
          show Gd _ _ _ _ (s₁.setTop (mkF m 33 #[.val (.long (-(Int64.ofNat n))), .second, .val (.int (0 : Int32)), .val (.long (-10000 : Int64)), .second, .val (.int (4 : Int32))] []))
          refine Gd.go (fun _ w_k => XS.iload X0.here hx rfl (hb hby d4_33) rfl w_k) ?_
          show Gd _ _ _ _ (s₁.setTop (mkF m 35 #[.val (.long (-(Int64.ofNat n))), .second, .val (.int (0 : Int32)), .val (.long (-10000 : Int64)), .second, .val (.int (4 : Int32))] [(.int (4 : Int32))]))
          refine Gd.go (fun _ w_k => XS.iloadN X0.here hx rfl (hb hby d4_35) rfl w_k) ?_
          show Gd _ _ _ _ (s₁.setTop (mkF m 36 #[.val (.long (-(Int64.ofNat n))), .second, .val (.int (0 : Int32)), .val (.long (-10000 : Int64)), .second, .val (.int (4 : Int32))] [(.int (0 : Int32)), (.int (4 : Int32))]))
          refine Gd.go (fun _ w_k => XS.iadd X0.here hx rfl (hb hby d4_36) rfl w_k) ?_
          show Gd _ _ _ _ (s₁.setTop (mkF m 37 #[.val (.long (-(Int64.ofNat n))), .second, .val (.int (0 : Int32)), .val (.long (-10000 : Int64)), .second, .val (.int (4 : Int32))] [(.int ((4 : Int32) + (0 : Int32)))]))
          refine own_retI X0 hx hret hlk (hb hby d4_37) ?_ (by decide) (by decide)
          have u1 := (own_sz hk hn (j := 4) (N := 10000) (by decide) (by decide) (P := (-10000 : Int64)) (by decide)).mp hc4
          have u2 : ¬ k ≤ 3 := fun q => hc3 ((own_sz hk hn (j := 3) (N := 1000) (by decide) (by decide) (P := (-1000 : Int64)) (by decide)).mpr q)
          have u3 := hk.1
          have u4 := hk.2.1
          obtain rfl : k = 4 := by omega
          exact ⟨rfl, e0, rfl⟩
        · refine Gd.go (fun _ w_k => XS.ifYes X0.here hx rfl (pc0 := 30) (pc' := 38) rfl (hb hby d4_30) rfl ((if0 _ _).trans (flt (fun q => hc4 ((lw_gt _ _).mp q))).2.2.2) (by decide) (by decide) w_k) ?_
          show Gd _ _ _ _ (s₁.setTop (mkF m 38 #[.val (.long (-(Int64.ofNat n))), .second, .val (.int (0 : Int32)), .val (.long (-10000 : Int64)), .second, .val (.int (4 : Int32))] []))
          refine Gd.go (fun _ w_k => X0.ldc2Long hx hown (mvT hZ (hw _ (List.mem_of_getElem? (i := 202) rfl))) (g := (mkF m 38 #[.val (.long (-(Int64.ofNat n))), .second, .val (.int (0 : Int32)), .val (.long (-10000 : Int64)), .second, .val (.int (4 : Int32))] [])) rfl (hb hby d4_38) _ w_k) ?_
          show Gd _ _ _ _ (s₁.setTop (mkF m 41 #[.val (.long (-(Int64.ofNat n))), .second, .val (.int (0 : Int32)), .val (.long (-10000 : Int64)), .second, .val (.int (4 : Int32))] [(.long (10 : Int64))]))
          refine Gd.go (fun _ w_k => XS.lloadN X0.here hx rfl (hb hby d4_41) rfl w_k) ?_
          show Gd _ _ _ _ (s₁.setTop (mkF m 42 #[.val (.long (-(Int64.ofNat n))), .second, .val (.int (0 : Int32)), .val (.long (-10000 : Int64)), .second, .val (.int (4 : Int32))] [(.long (-10000 : Int64)), (.long (10 : Int64))]))
          refine Gd.go (fun _ w_k => XS.lmul X0.here hx rfl (hb hby d4_42) rfl w_k) ?_
          show Gd _ _ _ _ (s₁.setTop (mkF m 43 #[.val (.long (-(Int64.ofNat n))), .second, .val (.int (0 : Int32)), .val (.long (-10000 : Int64)), .second, .val (.int (4 : Int32))] [(.long ((10 : Int64) * (-10000 : Int64)))]))
          refine Gd.go (fun _ w_k => XS.lstoreN X0.here hx rfl (hb hby d4_43) rfl (l' := #[.val (.long (-(Int64.ofNat n))), .second, .val (.int (0 : Int32)), .val (.long ((10 : Int64) * (-10000 : Int64))), .second, .val (.int (4 : Int32))]) rfl w_k) ?_
          show Gd _ _ _ _ (s₁.setTop (mkF m 44 #[.val (.long (-(Int64.ofNat n))), .second, .val (.int (0 : Int32)), .val (.long ((10 : Int64) * (-10000 : Int64))), .second, .val (.int (4 : Int32))] []))
          refine Gd.go (fun _ w_k => XS.iinc X0.here hx rfl (hb hby d4_44) rfl (l' := #[.val (.long (-(Int64.ofNat n))), .second, .val (.int (0 : Int32)), .val (.long ((10 : Int64) * (-10000 : Int64))), .second, .val (.int ((4 : Int32) + (1 : Int32)))]) rfl w_k) ?_
          show Gd _ _ _ _ (s₁.setTop (mkF m 47 #[.val (.long (-(Int64.ofNat n))), .second, .val (.int (0 : Int32)), .val (.long ((10 : Int64) * (-10000 : Int64))), .second, .val (.int ((4 : Int32) + (1 : Int32)))] []))
          refine Gd.go (fun _ w_k => XS.goto X0.here hx rfl (pc0 := 47) (pc' := 20) rfl (hb hby d4_47) (by decide) (by decide) w_k) ?_
          show Gd _ _ _ _ (s₁.setTop (mkF m 20 #[.val (.long (-(Int64.ofNat n))), .second, .val (.int (0 : Int32)), .val (.long ((10 : Int64) * (-10000 : Int64))), .second, .val (.int ((4 : Int32) + (1 : Int32)))] []))
          rw [show ((10 : Int64) * (-10000 : Int64)) = (-100000 : Int64) from by decide, show ((4 : Int32) + (1 : Int32)) = (5 : Int32) from by decide]
          show Gd _ _ _ _ (s₁.setTop (mkF m 20 #[.val (.long (-(Int64.ofNat n))), .second, .val (.int (0 : Int32)), .val (.long (-100000 : Int64)), .second, .val (.int (5 : Int32))] []))
          refine Gd.go (fun _ w_k => XS.iload X0.here hx rfl (hb hby d4_20) rfl w_k) ?_
          show Gd _ _ _ _ (s₁.setTop (mkF m 22 #[.val (.long (-(Int64.ofNat n))), .second, .val (.int (0 : Int32)), .val (.long (-100000 : Int64)), .second, .val (.int (5 : Int32))] [(.int (5 : Int32))]))
          refine Gd.go (fun _ w_k => XS.bipush X0.here hx rfl (hb hby d4_22) w_k) ?_
          show Gd _ _ _ _ (s₁.setTop (mkF m 24 #[.val (.long (-(Int64.ofNat n))), .second, .val (.int (0 : Int32)), .val (.long (-100000 : Int64)), .second, .val (.int (5 : Int32))] [(.int (19 : Int32)), (.int (5 : Int32))]))
          refine Gd.go (fun _ w_k => XS.icmpNo X0.here hx rfl (hb hby d4_24) rfl (tlt (by decide)).2.1 w_k) ?_
          show Gd _ _ _ _ (s₁.setTop (mkF m 27 #[.val (.long (-(Int64.ofNat n))), .second, .val (.int (0 : Int32)), .val (.long (-100000 : Int64)), .second, .val (.int (5 : Int32))] []))
          refine Gd.go (fun _ w_k => XS.lloadN X0.here hx rfl (hb hby d4_27) rfl w_k) ?_
          show Gd _ _ _ _ (s₁.setTop (mkF m 28 #[.val (.long (-(Int64.ofNat n))), .second, .val (.int (0 : Int32)), .val (.long (-100000 : Int64)), .second, .val (.int (5 : Int32))] [(.long (-(Int64.ofNat n)))]))
          refine Gd.go (fun _ w_k => XS.lloadN X0.here hx rfl (hb hby d4_28) rfl w_k) ?_
          show Gd _ _ _ _ (s₁.setTop (mkF m 29 #[.val (.long (-(Int64.ofNat n))), .second, .val (.int (0 : Int32)), .val (.long (-100000 : Int64)), .second, .val (.int (5 : Int32))] [(.long (-100000 : Int64)), (.long (-(Int64.ofNat n)))]))
          refine Gd.go (fun _ w_k => XS.lcmp X0.here hx rfl (hb hby d4_29) rfl w_k) ?_
          show Gd _ _ _ _ (s₁.setTop (mkF m 30 #[.val (.long (-(Int64.ofNat n))), .second, .val (.int (0 : Int32)), .val (.long (-100000 : Int64)), .second, .val (.int (5 : Int32))] [(.int (lcmpW (-(Int64.ofNat n)) (-100000 : Int64)))]))
          by_cases hc5 : (-100000 : Int64) < (-(Int64.ofNat n))
          · refine Gd.go (fun _ w_k => XS.ifNo X0.here hx rfl (hb hby d4_30) rfl ((if0 _ _).trans (tlt ((lw_gt _ _).mpr hc5)).2.2.2) w_k) ?_
            show Gd _ _ _ _ (s₁.setTop (mkF m 33 #[.val (.long (-(Int64.ofNat n))), .second, .val (.int (0 : Int32)), .val (.long (-100000 : Int64)), .second, .val (.int (5 : Int32))] []))
            refine Gd.go (fun _ w_k => XS.iload X0.here hx rfl (hb hby d4_33) rfl w_k) ?_
            show Gd _ _ _ _ (s₁.setTop (mkF m 35 #[.val (.long (-(Int64.ofNat n))), .second, .val (.int (0 : Int32)), .val (.long (-100000 : Int64)), .second, .val (.int (5 : Int32))] [(.int (5 : Int32))]))
            refine Gd.go (fun _ w_k => XS.iloadN X0.here hx rfl (hb hby d4_35) rfl w_k) ?_
            show Gd _ _ _ _ (s₁.setTop (mkF m 36 #[.val (.long (-(Int64.ofNat n))), .second, .val (.int (0 : Int32)), .val (.long (-100000 : Int64)), .second, .val (.int (5 : Int32))] [(.int (0 : Int32)), (.int (5 : Int32))]))
            refine Gd.go (fun _ w_k => XS.iadd X0.here hx rfl (hb hby d4_36) rfl w_k) ?_
            show Gd _ _ _ _ (s₁.setTop (mkF m 37 #[.val (.long (-(Int64.ofNat n))), .second, .val (.int (0 : Int32)), .val (.long (-100000 : Int64)), .second, .val (.int (5 : Int32))] [(.int ((5 : Int32) + (0 : Int32)))]))
            refine own_retI X0 hx hret hlk (hb hby d4_37) ?_ (by decide) (by decide)
            have u1 := (own_sz hk hn (j := 5) (N := 100000) (by decide) (by decide) (P := (-100000 : Int64)) (by decide)).mp hc5
            have u2 : ¬ k ≤ 4 := fun q => hc4 ((own_sz hk hn (j := 4) (N := 10000) (by decide) (by decide) (P := (-10000 : Int64)) (by decide)).mpr q)
            have u3 := hk.1
            have u4 := hk.2.1
            obtain rfl : k = 5 := by omega
            exact ⟨rfl, e0, rfl⟩
          · refine Gd.go (fun _ w_k => XS.ifYes X0.here hx rfl (pc0 := 30) (pc' := 38) rfl (hb hby d4_30) rfl ((if0 _ _).trans (flt (fun q => hc5 ((lw_gt _ _).mp q))).2.2.2) (by decide) (by decide) w_k) ?_
            show Gd _ _ _ _ (s₁.setTop (mkF m 38 #[.val (.long (-(Int64.ofNat n))), .second, .val (.int (0 : Int32)), .val (.long (-100000 : Int64)), .second, .val (.int (5 : Int32))] []))
            refine Gd.go (fun _ w_k => X0.ldc2Long hx hown (mvT hZ (hw _ (List.mem_of_getElem? (i := 202) rfl))) (g := (mkF m 38 #[.val (.long (-(Int64.ofNat n))), .second, .val (.int (0 : Int32)), .val (.long (-100000 : Int64)), .second, .val (.int (5 : Int32))] [])) rfl (hb hby d4_38) _ w_k) ?_
            show Gd _ _ _ _ (s₁.setTop (mkF m 41 #[.val (.long (-(Int64.ofNat n))), .second, .val (.int (0 : Int32)), .val (.long (-100000 : Int64)), .second, .val (.int (5 : Int32))] [(.long (10 : Int64))]))
            refine Gd.go (fun _ w_k => XS.lloadN X0.here hx rfl (hb hby d4_41) rfl w_k) ?_
            show Gd _ _ _ _ (s₁.setTop (mkF m 42 #[.val (.long (-(Int64.ofNat n))), .second, .val (.int (0 : Int32)), .val (.long (-100000 : Int64)), .second, .val (.int (5 : Int32))] [(.long (-100000 : Int64)), (.long (10 : Int64))]))
            refine Gd.go (fun _ w_k => XS.lmul X0.here hx rfl (hb hby d4_42) rfl w_k) ?_
            show Gd _ _ _ _ (s₁.setTop (mkF m 43 #[.val (.long (-(Int64.ofNat n))), .second, .val (.int (0 : Int32)), .val (.long (-100000 : Int64)), .second, .val (.int (5 : Int32))] [(.long ((10 : Int64) * (-100000 : Int64)))]))
            refine Gd.go (fun _ w_k => XS.lstoreN X0.here hx rfl (hb hby d4_43) rfl (l' := #[.val (.long (-(Int64.ofNat n))), .second, .val (.int (0 : Int32)), .val (.long ((10 : Int64) * (-100000 : Int64))), .second, .val (.int (5 : Int32))]) rfl w_k) ?_
            show Gd _ _ _ _ (s₁.setTop (mkF m 44 #[.val (.long (-(Int64.ofNat n))), .second, .val (.int (0 : Int32)), .val (.long ((10 : Int64) * (-100000 : Int64))), .second, .val (.int (5 : Int32))] []))
            refine Gd.go (fun _ w_k => XS.iinc X0.here hx rfl (hb hby d4_44) rfl (l' := #[.val (.long (-(Int64.ofNat n))), .second, .val (.int (0 : Int32)), .val (.long ((10 : Int64) * (-100000 : Int64))), .second, .val (.int ((5 : Int32) + (1 : Int32)))]) rfl w_k) ?_
            show Gd _ _ _ _ (s₁.setTop (mkF m 47 #[.val (.long (-(Int64.ofNat n))), .second, .val (.int (0 : Int32)), .val (.long ((10 : Int64) * (-100000 : Int64))), .second, .val (.int ((5 : Int32) + (1 : Int32)))] []))
            refine Gd.go (fun _ w_k => XS.goto X0.here hx rfl (pc0 := 47) (pc' := 20) rfl (hb hby d4_47) (by decide) (by decide) w_k) ?_
            show Gd _ _ _ _ (s₁.setTop (mkF m 20 #[.val (.long (-(Int64.ofNat n))), .second, .val (.int (0 : Int32)), .val (.long ((10 : Int64) * (-100000 : Int64))), .second, .val (.int ((5 : Int32) + (1 : Int32)))] []))
            rw [show ((10 : Int64) * (-100000 : Int64)) = (-1000000 : Int64) from by decide, show ((5 : Int32) + (1 : Int32)) = (6 : Int32) from by decide]
            show Gd _ _ _ _ (s₁.setTop (mkF m 20 #[.val (.long (-(Int64.ofNat n))), .second, .val (.int (0 : Int32)), .val (.long (-1000000 : Int64)), .second, .val (.int (6 : Int32))] []))
            refine Gd.go (fun _ w_k => XS.iload X0.here hx rfl (hb hby d4_20) rfl w_k) ?_
            show Gd _ _ _ _ (s₁.setTop (mkF m 22 #[.val (.long (-(Int64.ofNat n))), .second, .val (.int (0 : Int32)), .val (.long (-1000000 : Int64)), .second, .val (.int (6 : Int32))] [(.int (6 : Int32))]))
            refine Gd.go (fun _ w_k => XS.bipush X0.here hx rfl (hb hby d4_22) w_k) ?_
            show Gd _ _ _ _ (s₁.setTop (mkF m 24 #[.val (.long (-(Int64.ofNat n))), .second, .val (.int (0 : Int32)), .val (.long (-1000000 : Int64)), .second, .val (.int (6 : Int32))] [(.int (19 : Int32)), (.int (6 : Int32))]))
            refine Gd.go (fun _ w_k => XS.icmpNo X0.here hx rfl (hb hby d4_24) rfl (tlt (by decide)).2.1 w_k) ?_
            show Gd _ _ _ _ (s₁.setTop (mkF m 27 #[.val (.long (-(Int64.ofNat n))), .second, .val (.int (0 : Int32)), .val (.long (-1000000 : Int64)), .second, .val (.int (6 : Int32))] []))
            refine Gd.go (fun _ w_k => XS.lloadN X0.here hx rfl (hb hby d4_27) rfl w_k) ?_
            show Gd _ _ _ _ (s₁.setTop (mkF m 28 #[.val (.long (-(Int64.ofNat n))), .second, .val (.int (0 : Int32)), .val (.long (-1000000 : Int64)), .second, .val (.int (6 : Int32))] [(.long (-(Int64.ofNat n)))]))
            refine Gd.go (fun _ w_k => XS.lloadN X0.here hx rfl (hb hby d4_28) rfl w_k) ?_
            show Gd _ _ _ _ (s₁.setTop (mkF m 29 #[.val (.long (-(Int64.ofNat n))), .second, .val (.int (0 : Int32)), .val (.long (-1000000 : Int64)), .second, .val (.int (6 : Int32))] [(.long (-1000000 : Int64)), (.long (-(Int64.ofNat n)))]))
            refine Gd.go (fun _ w_k => XS.lcmp X0.here hx rfl (hb hby d4_29) rfl w_k) ?_
            show Gd _ _ _ _ (s₁.setTop (mkF m 30 #[.val (.long (-(Int64.ofNat n))), .second, .val (.int (0 : Int32)), .val (.long (-1000000 : Int64)), .second, .val (.int (6 : Int32))] [(.int (lcmpW (-(Int64.ofNat n)) (-1000000 : Int64)))]))
            by_cases hc6 : (-1000000 : Int64) < (-(Int64.ofNat n))
            · refine Gd.go (fun _ w_k => XS.ifNo X0.here hx rfl (hb hby d4_30) rfl ((if0 _ _).trans (tlt ((lw_gt _ _).mpr hc6)).2.2.2) w_k) ?_
              show Gd _ _ _ _ (s₁.setTop (mkF m 33 #[.val (.long (-(Int64.ofNat n))), .second, .val (.int (0 : Int32)), .val (.long (-1000000 : Int64)), .second, .val (.int (6 : Int32))] []))
              refine Gd.go (fun _ w_k => XS.iload X0.here hx rfl (hb hby d4_33) rfl w_k) ?_
              show Gd _ _ _ _ (s₁.setTop (mkF m 35 #[.val (.long (-(Int64.ofNat n))), .second, .val (.int (0 : Int32)), .val (.long (-1000000 : Int64)), .second, .val (.int (6 : Int32))] [(.int (6 : Int32))]))
              refine Gd.go (fun _ w_k => XS.iloadN X0.here hx rfl (hb hby d4_35) rfl w_k) ?_
              show Gd _ _ _ _ (s₁.setTop (mkF m 36 #[.val (.long (-(Int64.ofNat n))), .second, .val (.int (0 : Int32)), .val (.long (-1000000 : Int64)), .second, .val (.int (6 : Int32))] [(.int (0 : Int32)), (.int (6 : Int32))]))
              refine Gd.go (fun _ w_k => XS.iadd X0.here hx rfl (hb hby d4_36) rfl w_k) ?_
              show Gd _ _ _ _ (s₁.setTop (mkF m 37 #[.val (.long (-(Int64.ofNat n))), .second, .val (.int (0 : Int32)), .val (.long (-1000000 : Int64)), .second, .val (.int (6 : Int32))] [(.int ((6 : Int32) + (0 : Int32)))]))
              refine own_retI X0 hx hret hlk (hb hby d4_37) ?_ (by decide) (by decide)
              have u1 := (own_sz hk hn (j := 6) (N := 1000000) (by decide) (by decide) (P := (-1000000 : Int64)) (by decide)).mp hc6
              have u2 : ¬ k ≤ 5 := fun q => hc5 ((own_sz hk hn (j := 5) (N := 100000) (by decide) (by decide) (P := (-100000 : Int64)) (by decide)).mpr q)
              have u3 := hk.1
              have u4 := hk.2.1
              obtain rfl : k = 6 := by omega
              exact ⟨rfl, e0, rfl⟩
            · refine Gd.go (fun _ w_k => XS.ifYes X0.here hx rfl (pc0 := 30) (pc' := 38) rfl (hb hby d4_30) rfl ((if0 _ _).trans (flt (fun q => hc6 ((lw_gt _ _).mp q))).2.2.2) (by decide) (by decide) w_k) ?_
              show Gd _ _ _ _ (s₁.setTop (mkF m 38 #[.val (.long (-(Int64.ofNat n))), .second, .val (.int (0 : Int32)), .val (.long (-1000000 : Int64)), .second, .val (.int (6 : Int32))] []))
              refine Gd.go (fun _ w_k => X0.ldc2Long hx hown (mvT hZ (hw _ (List.mem_of_getElem? (i := 202) rfl))) (g := (mkF m 38 #[.val (.long (-(Int64.ofNat n))), .second, .val (.int (0 : Int32)), .val (.long (-1000000 : Int64)), .second, .val (.int (6 : Int32))] [])) rfl (hb hby d4_38) _ w_k) ?_
              show Gd _ _ _ _ (s₁.setTop (mkF m 41 #[.val (.long (-(Int64.ofNat n))), .second, .val (.int (0 : Int32)), .val (.long (-1000000 : Int64)), .second, .val (.int (6 : Int32))] [(.long (10 : Int64))]))
              refine Gd.go (fun _ w_k => XS.lloadN X0.here hx rfl (hb hby d4_41) rfl w_k) ?_
              show Gd _ _ _ _ (s₁.setTop (mkF m 42 #[.val (.long (-(Int64.ofNat n))), .second, .val (.int (0 : Int32)), .val (.long (-1000000 : Int64)), .second, .val (.int (6 : Int32))] [(.long (-1000000 : Int64)), (.long (10 : Int64))]))
              refine Gd.go (fun _ w_k => XS.lmul X0.here hx rfl (hb hby d4_42) rfl w_k) ?_
              show Gd _ _ _ _ (s₁.setTop (mkF m 43 #[.val (.long (-(Int64.ofNat n))), .second, .val (.int (0 : Int32)), .val (.long (-1000000 : Int64)), .second, .val (.int (6 : Int32))] [(.long ((10 : Int64) * (-1000000 : Int64)))]))
              refine Gd.go (fun _ w_k => XS.lstoreN X0.here hx rfl (hb hby d4_43) rfl (l' := #[.val (.long (-(Int64.ofNat n))), .second, .val (.int (0 : Int32)), .val (.long ((10 : Int64) * (-1000000 : Int64))), .second, .val (.int (6 : Int32))]) rfl w_k) ?_
              show Gd _ _ _ _ (s₁.setTop (mkF m 44 #[.val (.long (-(Int64.ofNat n))), .second, .val (.int (0 : Int32)), .val (.long ((10 : Int64) * (-1000000 : Int64))), .second, .val (.int (6 : Int32))] []))
              refine Gd.go (fun _ w_k => XS.iinc X0.here hx rfl (hb hby d4_44) rfl (l' := #[.val (.long (-(Int64.ofNat n))), .second, .val (.int (0 : Int32)), .val (.long ((10 : Int64) * (-1000000 : Int64))), .second, .val (.int ((6 : Int32) + (1 : Int32)))]) rfl w_k) ?_
              show Gd _ _ _ _ (s₁.setTop (mkF m 47 #[.val (.long (-(Int64.ofNat n))), .second, .val (.int (0 : Int32)), .val (.long ((10 : Int64) * (-1000000 : Int64))), .second, .val (.int ((6 : Int32) + (1 : Int32)))] []))
              refine Gd.go (fun _ w_k => XS.goto X0.here hx rfl (pc0 := 47) (pc' := 20) rfl (hb hby d4_47) (by decide) (by decide) w_k) ?_
              show Gd _ _ _ _ (s₁.setTop (mkF m 20 #[.val (.long (-(Int64.ofNat n))), .second, .val (.int (0 : Int32)), .val (.long ((10 : Int64) * (-1000000 : Int64))), .second, .val (.int ((6 : Int32) + (1 : Int32)))] []))
              rw [show ((10 : Int64) * (-1000000 : Int64)) = (-10000000 : Int64) from by decide, show ((6 : Int32) + (1 : Int32)) = (7 : Int32) from by decide]
              show Gd _ _ _ _ (s₁.setTop (mkF m 20 #[.val (.long (-(Int64.ofNat n))), .second, .val (.int (0 : Int32)), .val (.long (-10000000 : Int64)), .second, .val (.int (7 : Int32))] []))
              refine Gd.go (fun _ w_k => XS.iload X0.here hx rfl (hb hby d4_20) rfl w_k) ?_
              show Gd _ _ _ _ (s₁.setTop (mkF m 22 #[.val (.long (-(Int64.ofNat n))), .second, .val (.int (0 : Int32)), .val (.long (-10000000 : Int64)), .second, .val (.int (7 : Int32))] [(.int (7 : Int32))]))
              refine Gd.go (fun _ w_k => XS.bipush X0.here hx rfl (hb hby d4_22) w_k) ?_
              show Gd _ _ _ _ (s₁.setTop (mkF m 24 #[.val (.long (-(Int64.ofNat n))), .second, .val (.int (0 : Int32)), .val (.long (-10000000 : Int64)), .second, .val (.int (7 : Int32))] [(.int (19 : Int32)), (.int (7 : Int32))]))
              refine Gd.go (fun _ w_k => XS.icmpNo X0.here hx rfl (hb hby d4_24) rfl (tlt (by decide)).2.1 w_k) ?_
              show Gd _ _ _ _ (s₁.setTop (mkF m 27 #[.val (.long (-(Int64.ofNat n))), .second, .val (.int (0 : Int32)), .val (.long (-10000000 : Int64)), .second, .val (.int (7 : Int32))] []))
              refine Gd.go (fun _ w_k => XS.lloadN X0.here hx rfl (hb hby d4_27) rfl w_k) ?_
              show Gd _ _ _ _ (s₁.setTop (mkF m 28 #[.val (.long (-(Int64.ofNat n))), .second, .val (.int (0 : Int32)), .val (.long (-10000000 : Int64)), .second, .val (.int (7 : Int32))] [(.long (-(Int64.ofNat n)))]))
              refine Gd.go (fun _ w_k => XS.lloadN X0.here hx rfl (hb hby d4_28) rfl w_k) ?_
              show Gd _ _ _ _ (s₁.setTop (mkF m 29 #[.val (.long (-(Int64.ofNat n))), .second, .val (.int (0 : Int32)), .val (.long (-10000000 : Int64)), .second, .val (.int (7 : Int32))] [(.long (-10000000 : Int64)), (.long (-(Int64.ofNat n)))]))
              refine Gd.go (fun _ w_k => XS.lcmp X0.here hx rfl (hb hby d4_29) rfl w_k) ?_
              show Gd _ _ _ _ (s₁.setTop (mkF m 30 #[.val (.long (-(Int64.ofNat n))), .second, .val (.int (0 : Int32)), .val (.long (-10000000 : Int64)), .second, .val (.int (7 : Int32))] [(.int (lcmpW (-(Int64.ofNat n)) (-10000000 : Int64)))]))
              by_cases hc7 : (-10000000 : Int64) < (-(Int64.ofNat n))
              · refine Gd.go (fun _ w_k => XS.ifNo X0.here hx rfl (hb hby d4_30) rfl ((if0 _ _).trans (tlt ((lw_gt _ _).mpr hc7)).2.2.2) w_k) ?_
                show Gd _ _ _ _ (s₁.setTop (mkF m 33 #[.val (.long (-(Int64.ofNat n))), .second, .val (.int (0 : Int32)), .val (.long (-10000000 : Int64)), .second, .val (.int (7 : Int32))] []))
                refine Gd.go (fun _ w_k => XS.iload X0.here hx rfl (hb hby d4_33) rfl w_k) ?_
                show Gd _ _ _ _ (s₁.setTop (mkF m 35 #[.val (.long (-(Int64.ofNat n))), .second, .val (.int (0 : Int32)), .val (.long (-10000000 : Int64)), .second, .val (.int (7 : Int32))] [(.int (7 : Int32))]))
                refine Gd.go (fun _ w_k => XS.iloadN X0.here hx rfl (hb hby d4_35) rfl w_k) ?_
                show Gd _ _ _ _ (s₁.setTop (mkF m 36 #[.val (.long (-(Int64.ofNat n))), .second, .val (.int (0 : Int32)), .val (.long (-10000000 : Int64)), .second, .val (.int (7 : Int32))] [(.int (0 : Int32)), (.int (7 : Int32))]))
                refine Gd.go (fun _ w_k => XS.iadd X0.here hx rfl (hb hby d4_36) rfl w_k) ?_
                show Gd _ _ _ _ (s₁.setTop (mkF m 37 #[.val (.long (-(Int64.ofNat n))), .second, .val (.int (0 : Int32)), .val (.long (-10000000 : Int64)), .second, .val (.int (7 : Int32))] [(.int ((7 : Int32) + (0 : Int32)))]))
                refine own_retI X0 hx hret hlk (hb hby d4_37) ?_ (by decide) (by decide)
                have u1 := (own_sz hk hn (j := 7) (N := 10000000) (by decide) (by decide) (P := (-10000000 : Int64)) (by decide)).mp hc7
                have u2 : ¬ k ≤ 6 := fun q => hc6 ((own_sz hk hn (j := 6) (N := 1000000) (by decide) (by decide) (P := (-1000000 : Int64)) (by decide)).mpr q)
                have u3 := hk.1
                have u4 := hk.2.1
                obtain rfl : k = 7 := by omega
                exact ⟨rfl, e0, rfl⟩
              · refine Gd.go (fun _ w_k => XS.ifYes X0.here hx rfl (pc0 := 30) (pc' := 38) rfl (hb hby d4_30) rfl ((if0 _ _).trans (flt (fun q => hc7 ((lw_gt _ _).mp q))).2.2.2) (by decide) (by decide) w_k) ?_
                show Gd _ _ _ _ (s₁.setTop (mkF m 38 #[.val (.long (-(Int64.ofNat n))), .second, .val (.int (0 : Int32)), .val (.long (-10000000 : Int64)), .second, .val (.int (7 : Int32))] []))
                refine Gd.go (fun _ w_k => X0.ldc2Long hx hown (mvT hZ (hw _ (List.mem_of_getElem? (i := 202) rfl))) (g := (mkF m 38 #[.val (.long (-(Int64.ofNat n))), .second, .val (.int (0 : Int32)), .val (.long (-10000000 : Int64)), .second, .val (.int (7 : Int32))] [])) rfl (hb hby d4_38) _ w_k) ?_
                show Gd _ _ _ _ (s₁.setTop (mkF m 41 #[.val (.long (-(Int64.ofNat n))), .second, .val (.int (0 : Int32)), .val (.long (-10000000 : Int64)), .second, .val (.int (7 : Int32))] [(.long (10 : Int64))]))
                refine Gd.go (fun _ w_k => XS.lloadN X0.here hx rfl (hb hby d4_41) rfl w_k) ?_
                show Gd _ _ _ _ (s₁.setTop (mkF m 42 #[.val (.long (-(Int64.ofNat n))), .second, .val (.int (0 : Int32)), .val (.long (-10000000 : Int64)), .second, .val (.int (7 : Int32))] [(.long (-10000000 : Int64)), (.long (10 : Int64))]))
                refine Gd.go (fun _ w_k => XS.lmul X0.here hx rfl (hb hby d4_42) rfl w_k) ?_
                show Gd _ _ _ _ (s₁.setTop (mkF m 43 #[.val (.long (-(Int64.ofNat n))), .second, .val (.int (0 : Int32)), .val (.long (-10000000 : Int64)), .second, .val (.int (7 : Int32))] [(.long ((10 : Int64) * (-10000000 : Int64)))]))
                refine Gd.go (fun _ w_k => XS.lstoreN X0.here hx rfl (hb hby d4_43) rfl (l' := #[.val (.long (-(Int64.ofNat n))), .second, .val (.int (0 : Int32)), .val (.long ((10 : Int64) * (-10000000 : Int64))), .second, .val (.int (7 : Int32))]) rfl w_k) ?_
                show Gd _ _ _ _ (s₁.setTop (mkF m 44 #[.val (.long (-(Int64.ofNat n))), .second, .val (.int (0 : Int32)), .val (.long ((10 : Int64) * (-10000000 : Int64))), .second, .val (.int (7 : Int32))] []))
                refine Gd.go (fun _ w_k => XS.iinc X0.here hx rfl (hb hby d4_44) rfl (l' := #[.val (.long (-(Int64.ofNat n))), .second, .val (.int (0 : Int32)), .val (.long ((10 : Int64) * (-10000000 : Int64))), .second, .val (.int ((7 : Int32) + (1 : Int32)))]) rfl w_k) ?_
                show Gd _ _ _ _ (s₁.setTop (mkF m 47 #[.val (.long (-(Int64.ofNat n))), .second, .val (.int (0 : Int32)), .val (.long ((10 : Int64) * (-10000000 : Int64))), .second, .val (.int ((7 : Int32) + (1 : Int32)))] []))
                refine Gd.go (fun _ w_k => XS.goto X0.here hx rfl (pc0 := 47) (pc' := 20) rfl (hb hby d4_47) (by decide) (by decide) w_k) ?_
                show Gd _ _ _ _ (s₁.setTop (mkF m 20 #[.val (.long (-(Int64.ofNat n))), .second, .val (.int (0 : Int32)), .val (.long ((10 : Int64) * (-10000000 : Int64))), .second, .val (.int ((7 : Int32) + (1 : Int32)))] []))
                rw [show ((10 : Int64) * (-10000000 : Int64)) = (-100000000 : Int64) from by decide, show ((7 : Int32) + (1 : Int32)) = (8 : Int32) from by decide]
                show Gd _ _ _ _ (s₁.setTop (mkF m 20 #[.val (.long (-(Int64.ofNat n))), .second, .val (.int (0 : Int32)), .val (.long (-100000000 : Int64)), .second, .val (.int (8 : Int32))] []))
                refine Gd.go (fun _ w_k => XS.iload X0.here hx rfl (hb hby d4_20) rfl w_k) ?_
                show Gd _ _ _ _ (s₁.setTop (mkF m 22 #[.val (.long (-(Int64.ofNat n))), .second, .val (.int (0 : Int32)), .val (.long (-100000000 : Int64)), .second, .val (.int (8 : Int32))] [(.int (8 : Int32))]))
                refine Gd.go (fun _ w_k => XS.bipush X0.here hx rfl (hb hby d4_22) w_k) ?_
                show Gd _ _ _ _ (s₁.setTop (mkF m 24 #[.val (.long (-(Int64.ofNat n))), .second, .val (.int (0 : Int32)), .val (.long (-100000000 : Int64)), .second, .val (.int (8 : Int32))] [(.int (19 : Int32)), (.int (8 : Int32))]))
                refine Gd.go (fun _ w_k => XS.icmpNo X0.here hx rfl (hb hby d4_24) rfl (tlt (by decide)).2.1 w_k) ?_
                show Gd _ _ _ _ (s₁.setTop (mkF m 27 #[.val (.long (-(Int64.ofNat n))), .second, .val (.int (0 : Int32)), .val (.long (-100000000 : Int64)), .second, .val (.int (8 : Int32))] []))
                refine Gd.go (fun _ w_k => XS.lloadN X0.here hx rfl (hb hby d4_27) rfl w_k) ?_
                show Gd _ _ _ _ (s₁.setTop (mkF m 28 #[.val (.long (-(Int64.ofNat n))), .second, .val (.int (0 : Int32)), .val (.long (-100000000 : Int64)), .second, .val (.int (8 : Int32))] [(.long (-(Int64.ofNat n)))]))
                refine Gd.go (fun _ w_k => XS.lloadN X0.here hx rfl (hb hby d4_28) rfl w_k) ?_
                show Gd _ _ _ _ (s₁.setTop (mkF m 29 #[.val (.long (-(Int64.ofNat n))), .second, .val (.int (0 : Int32)), .val (.long (-100000000 : Int64)), .second, .val (.int (8 : Int32))] [(.long (-100000000 : Int64)), (.long (-(Int64.ofNat n)))]))
                refine Gd.go (fun _ w_k => XS.lcmp X0.here hx rfl (hb hby d4_29) rfl w_k) ?_
                show Gd _ _ _ _ (s₁.setTop (mkF m 30 #[.val (.long (-(Int64.ofNat n))), .second, .val (.int (0 : Int32)), .val (.long (-100000000 : Int64)), .second, .val (.int (8 : Int32))] [(.int (lcmpW (-(Int64.ofNat n)) (-100000000 : Int64)))]))
                by_cases hc8 : (-100000000 : Int64) < (-(Int64.ofNat n))
                · refine Gd.go (fun _ w_k => XS.ifNo X0.here hx rfl (hb hby d4_30) rfl ((if0 _ _).trans (tlt ((lw_gt _ _).mpr hc8)).2.2.2) w_k) ?_
                  show Gd _ _ _ _ (s₁.setTop (mkF m 33 #[.val (.long (-(Int64.ofNat n))), .second, .val (.int (0 : Int32)), .val (.long (-100000000 : Int64)), .second, .val (.int (8 : Int32))] []))
                  refine Gd.go (fun _ w_k => XS.iload X0.here hx rfl (hb hby d4_33) rfl w_k) ?_
                  show Gd _ _ _ _ (s₁.setTop (mkF m 35 #[.val (.long (-(Int64.ofNat n))), .second, .val (.int (0 : Int32)), .val (.long (-100000000 : Int64)), .second, .val (.int (8 : Int32))] [(.int (8 : Int32))]))
                  refine Gd.go (fun _ w_k => XS.iloadN X0.here hx rfl (hb hby d4_35) rfl w_k) ?_
                  show Gd _ _ _ _ (s₁.setTop (mkF m 36 #[.val (.long (-(Int64.ofNat n))), .second, .val (.int (0 : Int32)), .val (.long (-100000000 : Int64)), .second, .val (.int (8 : Int32))] [(.int (0 : Int32)), (.int (8 : Int32))]))
                  refine Gd.go (fun _ w_k => XS.iadd X0.here hx rfl (hb hby d4_36) rfl w_k) ?_
                  show Gd _ _ _ _ (s₁.setTop (mkF m 37 #[.val (.long (-(Int64.ofNat n))), .second, .val (.int (0 : Int32)), .val (.long (-100000000 : Int64)), .second, .val (.int (8 : Int32))] [(.int ((8 : Int32) + (0 : Int32)))]))
                  refine own_retI X0 hx hret hlk (hb hby d4_37) ?_ (by decide) (by decide)
                  have u1 := (own_sz hk hn (j := 8) (N := 100000000) (by decide) (by decide) (P := (-100000000 : Int64)) (by decide)).mp hc8
                  have u2 : ¬ k ≤ 7 := fun q => hc7 ((own_sz hk hn (j := 7) (N := 10000000) (by decide) (by decide) (P := (-10000000 : Int64)) (by decide)).mpr q)
                  have u3 := hk.1
                  have u4 := hk.2.1
                  obtain rfl : k = 8 := by omega
                  exact ⟨rfl, e0, rfl⟩
                · refine Gd.go (fun _ w_k => XS.ifYes X0.here hx rfl (pc0 := 30) (pc' := 38) rfl (hb hby d4_30) rfl ((if0 _ _).trans (flt (fun q => hc8 ((lw_gt _ _).mp q))).2.2.2) (by decide) (by decide) w_k) ?_
                  show Gd _ _ _ _ (s₁.setTop (mkF m 38 #[.val (.long (-(Int64.ofNat n))), .second, .val (.int (0 : Int32)), .val (.long (-100000000 : Int64)), .second, .val (.int (8 : Int32))] []))
                  refine Gd.go (fun _ w_k => X0.ldc2Long hx hown (mvT hZ (hw _ (List.mem_of_getElem? (i := 202) rfl))) (g := (mkF m 38 #[.val (.long (-(Int64.ofNat n))), .second, .val (.int (0 : Int32)), .val (.long (-100000000 : Int64)), .second, .val (.int (8 : Int32))] [])) rfl (hb hby d4_38) _ w_k) ?_
                  show Gd _ _ _ _ (s₁.setTop (mkF m 41 #[.val (.long (-(Int64.ofNat n))), .second, .val (.int (0 : Int32)), .val (.long (-100000000 : Int64)), .second, .val (.int (8 : Int32))] [(.long (10 : Int64))]))
                  refine Gd.go (fun _ w_k => XS.lloadN X0.here hx rfl (hb hby d4_41) rfl w_k) ?_
                  show Gd _ _ _ _ (s₁.setTop (mkF m 42 #[.val (.long (-(Int64.ofNat n))), .second, .val (.int (0 : Int32)), .val (.long (-100000000 : Int64)), .second, .val (.int (8 : Int32))] [(.long (-100000000 : Int64)), (.long (10 : Int64))]))
                  refine Gd.go (fun _ w_k => XS.lmul X0.here hx rfl (hb hby d4_42) rfl w_k) ?_
                  show Gd _ _ _ _ (s₁.setTop (mkF m 43 #[.val (.long (-(Int64.ofNat n))), .second, .val (.int (0 : Int32)), .val (.long (-100000000 : Int64)), .second, .val (.int (8 : Int32))] [(.long ((10 : Int64) * (-100000000 : Int64)))]))
                  refine Gd.go (fun _ w_k => XS.lstoreN X0.here hx rfl (hb hby d4_43) rfl (l' := #[.val (.long (-(Int64.ofNat n))), .second, .val (.int (0 : Int32)), .val (.long ((10 : Int64) * (-100000000 : Int64))), .second, .val (.int (8 : Int32))]) rfl w_k) ?_
                  show Gd _ _ _ _ (s₁.setTop (mkF m 44 #[.val (.long (-(Int64.ofNat n))), .second, .val (.int (0 : Int32)), .val (.long ((10 : Int64) * (-100000000 : Int64))), .second, .val (.int (8 : Int32))] []))
                  refine Gd.go (fun _ w_k => XS.iinc X0.here hx rfl (hb hby d4_44) rfl (l' := #[.val (.long (-(Int64.ofNat n))), .second, .val (.int (0 : Int32)), .val (.long ((10 : Int64) * (-100000000 : Int64))), .second, .val (.int ((8 : Int32) + (1 : Int32)))]) rfl w_k) ?_
                  show Gd _ _ _ _ (s₁.setTop (mkF m 47 #[.val (.long (-(Int64.ofNat n))), .second, .val (.int (0 : Int32)), .val (.long ((10 : Int64) * (-100000000 : Int64))), .second, .val (.int ((8 : Int32) + (1 : Int32)))] []))
                  refine Gd.go (fun _ w_k => XS.goto X0.here hx rfl (pc0 := 47) (pc' := 20) rfl (hb hby d4_47) (by decide) (by decide) w_k) ?_
                  show Gd _ _ _ _ (s₁.setTop (mkF m 20 #[.val (.long (-(Int64.ofNat n))), .second, .val (.int (0 : Int32)), .val (.long ((10 : Int64) * (-100000000 : Int64))), .second, .val (.int ((8 : Int32) + (1 : Int32)))] []))
                  rw [show ((10 : Int64) * (-100000000 : Int64)) = (-1000000000 : Int64) from by decide, show ((8 : Int32) + (1 : Int32)) = (9 : Int32) from by decide]
                  show Gd _ _ _ _ (s₁.setTop (mkF m 20 #[.val (.long (-(Int64.ofNat n))), .second, .val (.int (0 : Int32)), .val (.long (-1000000000 : Int64)), .second, .val (.int (9 : Int32))] []))
                  refine Gd.go (fun _ w_k => XS.iload X0.here hx rfl (hb hby d4_20) rfl w_k) ?_
                  show Gd _ _ _ _ (s₁.setTop (mkF m 22 #[.val (.long (-(Int64.ofNat n))), .second, .val (.int (0 : Int32)), .val (.long (-1000000000 : Int64)), .second, .val (.int (9 : Int32))] [(.int (9 : Int32))]))
                  refine Gd.go (fun _ w_k => XS.bipush X0.here hx rfl (hb hby d4_22) w_k) ?_
                  show Gd _ _ _ _ (s₁.setTop (mkF m 24 #[.val (.long (-(Int64.ofNat n))), .second, .val (.int (0 : Int32)), .val (.long (-1000000000 : Int64)), .second, .val (.int (9 : Int32))] [(.int (19 : Int32)), (.int (9 : Int32))]))
                  refine Gd.go (fun _ w_k => XS.icmpNo X0.here hx rfl (hb hby d4_24) rfl (tlt (by decide)).2.1 w_k) ?_
                  show Gd _ _ _ _ (s₁.setTop (mkF m 27 #[.val (.long (-(Int64.ofNat n))), .second, .val (.int (0 : Int32)), .val (.long (-1000000000 : Int64)), .second, .val (.int (9 : Int32))] []))
                  refine Gd.go (fun _ w_k => XS.lloadN X0.here hx rfl (hb hby d4_27) rfl w_k) ?_
                  show Gd _ _ _ _ (s₁.setTop (mkF m 28 #[.val (.long (-(Int64.ofNat n))), .second, .val (.int (0 : Int32)), .val (.long (-1000000000 : Int64)), .second, .val (.int (9 : Int32))] [(.long (-(Int64.ofNat n)))]))
                  refine Gd.go (fun _ w_k => XS.lloadN X0.here hx rfl (hb hby d4_28) rfl w_k) ?_
                  show Gd _ _ _ _ (s₁.setTop (mkF m 29 #[.val (.long (-(Int64.ofNat n))), .second, .val (.int (0 : Int32)), .val (.long (-1000000000 : Int64)), .second, .val (.int (9 : Int32))] [(.long (-1000000000 : Int64)), (.long (-(Int64.ofNat n)))]))
                  refine Gd.go (fun _ w_k => XS.lcmp X0.here hx rfl (hb hby d4_29) rfl w_k) ?_
                  show Gd _ _ _ _ (s₁.setTop (mkF m 30 #[.val (.long (-(Int64.ofNat n))), .second, .val (.int (0 : Int32)), .val (.long (-1000000000 : Int64)), .second, .val (.int (9 : Int32))] [(.int (lcmpW (-(Int64.ofNat n)) (-1000000000 : Int64)))]))
                  by_cases hc9 : (-1000000000 : Int64) < (-(Int64.ofNat n))
                  · refine Gd.go (fun _ w_k => XS.ifNo X0.here hx rfl (hb hby d4_30) rfl ((if0 _ _).trans (tlt ((lw_gt _ _).mpr hc9)).2.2.2) w_k) ?_
                    show Gd _ _ _ _ (s₁.setTop (mkF m 33 #[.val (.long (-(Int64.ofNat n))), .second, .val (.int (0 : Int32)), .val (.long (-1000000000 : Int64)), .second, .val (.int (9 : Int32))] []))
                    refine Gd.go (fun _ w_k => XS.iload X0.here hx rfl (hb hby d4_33) rfl w_k) ?_
                    show Gd _ _ _ _ (s₁.setTop (mkF m 35 #[.val (.long (-(Int64.ofNat n))), .second, .val (.int (0 : Int32)), .val (.long (-1000000000 : Int64)), .second, .val (.int (9 : Int32))] [(.int (9 : Int32))]))
                    refine Gd.go (fun _ w_k => XS.iloadN X0.here hx rfl (hb hby d4_35) rfl w_k) ?_
                    show Gd _ _ _ _ (s₁.setTop (mkF m 36 #[.val (.long (-(Int64.ofNat n))), .second, .val (.int (0 : Int32)), .val (.long (-1000000000 : Int64)), .second, .val (.int (9 : Int32))] [(.int (0 : Int32)), (.int (9 : Int32))]))
                    refine Gd.go (fun _ w_k => XS.iadd X0.here hx rfl (hb hby d4_36) rfl w_k) ?_
                    show Gd _ _ _ _ (s₁.setTop (mkF m 37 #[.val (.long (-(Int64.ofNat n))), .second, .val (.int (0 : Int32)), .val (.long (-1000000000 : Int64)), .second, .val (.int (9 : Int32))] [(.int ((9 : Int32) + (0 : Int32)))]))
                    refine own_retI X0 hx hret hlk (hb hby d4_37) ?_ (by decide) (by decide)
                    have u1 := (own_sz hk hn (j := 9) (N := 1000000000) (by decide) (by decide) (P := (-1000000000 : Int64)) (by decide)).mp hc9
                    have u2 : ¬ k ≤ 8 := fun q => hc8 ((own_sz hk hn (j := 8) (N := 100000000) (by decide) (by decide) (P := (-100000000 : Int64)) (by decide)).mpr q)
                    have u3 := hk.1
                    have u4 := hk.2.1
                    obtain rfl : k = 9 := by omega
                    exact ⟨rfl, e0, rfl⟩
                  · refine Gd.go (fun _ w_k => XS.ifYes X0.here hx rfl (pc0 := 30) (pc' := 38) rfl (hb hby d4_30) rfl ((if0 _ _).trans (flt (fun q => hc9 ((lw_gt _ _).mp q))).2.2.2) (by decide) (by decide) w_k) ?_
                    show Gd _ _ _ _ (s₁.setTop (mkF m 38 #[.val (.long (-(Int64.ofNat n))), .second, .val (.int (0 : Int32)), .val (.long (-1000000000 : Int64)), .second, .val (.int (9 : Int32))] []))
                    refine Gd.go (fun _ w_k => X0.ldc2Long hx hown (mvT hZ (hw _ (List.mem_of_getElem? (i := 202) rfl))) (g := (mkF m 38 #[.val (.long (-(Int64.ofNat n))), .second, .val (.int (0 : Int32)), .val (.long (-1000000000 : Int64)), .second, .val (.int (9 : Int32))] [])) rfl (hb hby d4_38) _ w_k) ?_
                    show Gd _ _ _ _ (s₁.setTop (mkF m 41 #[.val (.long (-(Int64.ofNat n))), .second, .val (.int (0 : Int32)), .val (.long (-1000000000 : Int64)), .second, .val (.int (9 : Int32))] [(.long (10 : Int64))]))
                    refine Gd.go (fun _ w_k => XS.lloadN X0.here hx rfl (hb hby d4_41) rfl w_k) ?_
                    show Gd _ _ _ _ (s₁.setTop (mkF m 42 #[.val (.long (-(Int64.ofNat n))), .second, .val (.int (0 : Int32)), .val (.long (-1000000000 : Int64)), .second, .val (.int (9 : Int32))] [(.long (-1000000000 : Int64)), (.long (10 : Int64))]))
                    refine Gd.go (fun _ w_k => XS.lmul X0.here hx rfl (hb hby d4_42) rfl w_k) ?_
                    show Gd _ _ _ _ (s₁.setTop (mkF m 43 #[.val (.long (-(Int64.ofNat n))), .second, .val (.int (0 : Int32)), .val (.long (-1000000000 : Int64)), .second, .val (.int (9 : Int32))] [(.long ((10 : Int64) * (-1000000000 : Int64)))]))
                    refine Gd.go (fun _ w_k => XS.lstoreN X0.here hx rfl (hb hby d4_43) rfl (l' := #[.val (.long (-(Int64.ofNat n))), .second, .val (.int (0 : Int32)), .val (.long ((10 : Int64) * (-1000000000 : Int64))), .second, .val (.int (9 : Int32))]) rfl w_k) ?_
                    show Gd _ _ _ _ (s₁.setTop (mkF m 44 #[.val (.long (-(Int64.ofNat n))), .second, .val (.int (0 : Int32)), .val (.long ((10 : Int64) * (-1000000000 : Int64))), .second, .val (.int (9 : Int32))] []))
                    refine Gd.go (fun _ w_k => XS.iinc X0.here hx rfl (hb hby d4_44) rfl (l' := #[.val (.long (-(Int64.ofNat n))), .second, .val (.int (0 : Int32)), .val (.long ((10 : Int64) * (-1000000000 : Int64))), .second, .val (.int ((9 : Int32) + (1 : Int32)))]) rfl w_k) ?_
                    show Gd _ _ _ _ (s₁.setTop (mkF m 47 #[.val (.long (-(Int64.ofNat n))), .second, .val (.int (0 : Int32)), .val (.long ((10 : Int64) * (-1000000000 : Int64))), .second, .val (.int ((9 : Int32) + (1 : Int32)))] []))
                    refine Gd.go (fun _ w_k => XS.goto X0.here hx rfl (pc0 := 47) (pc' := 20) rfl (hb hby d4_47) (by decide) (by decide) w_k) ?_
                    show Gd _ _ _ _ (s₁.setTop (mkF m 20 #[.val (.long (-(Int64.ofNat n))), .second, .val (.int (0 : Int32)), .val (.long ((10 : Int64) * (-1000000000 : Int64))), .second, .val (.int ((9 : Int32) + (1 : Int32)))] []))
                    rw [show ((10 : Int64) * (-1000000000 : Int64)) = (-10000000000 : Int64) from by decide, show ((9 : Int32) + (1 : Int32)) = (10 : Int32) from by decide]
                    show Gd _ _ _ _ (s₁.setTop (mkF m 20 #[.val (.long (-(Int64.ofNat n))), .second, .val (.int (0 : Int32)), .val (.long (-10000000000 : Int64)), .second, .val (.int (10 : Int32))] []))
                    refine Gd.go (fun _ w_k => XS.iload X0.here hx rfl (hb hby d4_20) rfl w_k) ?_
                    show Gd _ _ _ _ (s₁.setTop (mkF m 22 #[.val (.long (-(Int64.ofNat n))), .second, .val (.int (0 : Int32)), .val (.long (-10000000000 : Int64)), .second, .val (.int (10 : Int32))] [(.int (10 : Int32))]))
                    refine Gd.go (fun _ w_k => XS.bipush X0.here hx rfl (hb hby d4_22) w_k) ?_
                    show Gd _ _ _ _ (s₁.setTop (mkF m 24 #[.val (.long (-(Int64.ofNat n))), .second, .val (.int (0 : Int32)), .val (.long (-10000000000 : Int64)), .second, .val (.int (10 : Int32))] [(.int (19 : Int32)), (.int (10 : Int32))]))
                    refine Gd.go (fun _ w_k => XS.icmpNo X0.here hx rfl (hb hby d4_24) rfl (tlt (by decide)).2.1 w_k) ?_
                    show Gd _ _ _ _ (s₁.setTop (mkF m 27 #[.val (.long (-(Int64.ofNat n))), .second, .val (.int (0 : Int32)), .val (.long (-10000000000 : Int64)), .second, .val (.int (10 : Int32))] []))
                    refine Gd.go (fun _ w_k => XS.lloadN X0.here hx rfl (hb hby d4_27) rfl w_k) ?_
                    show Gd _ _ _ _ (s₁.setTop (mkF m 28 #[.val (.long (-(Int64.ofNat n))), .second, .val (.int (0 : Int32)), .val (.long (-10000000000 : Int64)), .second, .val (.int (10 : Int32))] [(.long (-(Int64.ofNat n)))]))
                    refine Gd.go (fun _ w_k => XS.lloadN X0.here hx rfl (hb hby d4_28) rfl w_k) ?_
                    show Gd _ _ _ _ (s₁.setTop (mkF m 29 #[.val (.long (-(Int64.ofNat n))), .second, .val (.int (0 : Int32)), .val (.long (-10000000000 : Int64)), .second, .val (.int (10 : Int32))] [(.long (-10000000000 : Int64)), (.long (-(Int64.ofNat n)))]))
                    refine Gd.go (fun _ w_k => XS.lcmp X0.here hx rfl (hb hby d4_29) rfl w_k) ?_
                    show Gd _ _ _ _ (s₁.setTop (mkF m 30 #[.val (.long (-(Int64.ofNat n))), .second, .val (.int (0 : Int32)), .val (.long (-10000000000 : Int64)), .second, .val (.int (10 : Int32))] [(.int (lcmpW (-(Int64.ofNat n)) (-10000000000 : Int64)))]))
                    by_cases hc10 : (-10000000000 : Int64) < (-(Int64.ofNat n))
                    · refine Gd.go (fun _ w_k => XS.ifNo X0.here hx rfl (hb hby d4_30) rfl ((if0 _ _).trans (tlt ((lw_gt _ _).mpr hc10)).2.2.2) w_k) ?_
                      show Gd _ _ _ _ (s₁.setTop (mkF m 33 #[.val (.long (-(Int64.ofNat n))), .second, .val (.int (0 : Int32)), .val (.long (-10000000000 : Int64)), .second, .val (.int (10 : Int32))] []))
                      refine Gd.go (fun _ w_k => XS.iload X0.here hx rfl (hb hby d4_33) rfl w_k) ?_
                      show Gd _ _ _ _ (s₁.setTop (mkF m 35 #[.val (.long (-(Int64.ofNat n))), .second, .val (.int (0 : Int32)), .val (.long (-10000000000 : Int64)), .second, .val (.int (10 : Int32))] [(.int (10 : Int32))]))
                      refine Gd.go (fun _ w_k => XS.iloadN X0.here hx rfl (hb hby d4_35) rfl w_k) ?_
                      show Gd _ _ _ _ (s₁.setTop (mkF m 36 #[.val (.long (-(Int64.ofNat n))), .second, .val (.int (0 : Int32)), .val (.long (-10000000000 : Int64)), .second, .val (.int (10 : Int32))] [(.int (0 : Int32)), (.int (10 : Int32))]))
                      refine Gd.go (fun _ w_k => XS.iadd X0.here hx rfl (hb hby d4_36) rfl w_k) ?_
                      show Gd _ _ _ _ (s₁.setTop (mkF m 37 #[.val (.long (-(Int64.ofNat n))), .second, .val (.int (0 : Int32)), .val (.long (-10000000000 : Int64)), .second, .val (.int (10 : Int32))] [(.int ((10 : Int32) + (0 : Int32)))]))
                      refine own_retI X0 hx hret hlk (hb hby d4_37) ?_ (by decide) (by decide)
                      have u1 := (own_sz hk hn (j := 10) (N := 10000000000) (by decide) (by decide) (P := (-10000000000 : Int64)) (by decide)).mp hc10
                      have u2 : ¬ k ≤ 9 := fun q => hc9 ((own_sz hk hn (j := 9) (N := 1000000000) (by decide) (by decide) (P := (-1000000000 : Int64)) (by decide)).mpr q)
                      have u3 := hk.1
                      have u4 := hk.2.1
                      obtain rfl : k = 10 := by omega
                      exact ⟨rfl, e0, rfl⟩
                    · refine Gd.go (fun _ w_k => XS.ifYes X0.here hx rfl (pc0 := 30) (pc' := 38) rfl (hb hby d4_30) rfl ((if0 _ _).trans (flt (fun q => hc10 ((lw_gt _ _).mp q))).2.2.2) (by decide) (by decide) w_k) ?_
                      show Gd _ _ _ _ (s₁.setTop (mkF m 38 #[.val (.long (-(Int64.ofNat n))), .second, .val (.int (0 : Int32)), .val (.long (-10000000000 : Int64)), .second, .val (.int (10 : Int32))] []))
                      refine Gd.go (fun _ w_k => X0.ldc2Long hx hown (mvT hZ (hw _ (List.mem_of_getElem? (i := 202) rfl))) (g := (mkF m 38 #[.val (.long (-(Int64.ofNat n))), .second, .val (.int (0 : Int32)), .val (.long (-10000000000 : Int64)), .second, .val (.int (10 : Int32))] [])) rfl (hb hby d4_38) _ w_k) ?_
                      show Gd _ _ _ _ (s₁.setTop (mkF m 41 #[.val (.long (-(Int64.ofNat n))), .second, .val (.int (0 : Int32)), .val (.long (-10000000000 : Int64)), .second, .val (.int (10 : Int32))] [(.long (10 : Int64))]))
                      refine Gd.go (fun _ w_k => XS.lloadN X0.here hx rfl (hb hby d4_41) rfl w_k) ?_
                      show Gd _ _ _ _ (s₁.setTop (mkF m 42 #[.val (.long (-(Int64.ofNat n))), .second, .val (.int (0 : Int32)), .val (.long (-10000000000 : Int64)), .second, .val (.int (10 : Int32))] [(.long (-10000000000 : Int64)), (.long (10 : Int64))]))
                      refine Gd.go (fun _ w_k => XS.lmul X0.here hx rfl (hb hby d4_42) rfl w_k) ?_
                      show Gd _ _ _ _ (s₁.setTop (mkF m 43 #[.val (.long (-(Int64.ofNat n))), .second, .val (.int (0 : Int32)), .val (.long (-10000000000 : Int64)), .second, .val (.int (10 : Int32))] [(.long ((10 : Int64) * (-10000000000 : Int64)))]))
                      refine Gd.go (fun _ w_k => XS.lstoreN X0.here hx rfl (hb hby d4_43) rfl (l' := #[.val (.long (-(Int64.ofNat n))), .second, .val (.int (0 : Int32)), .val (.long ((10 : Int64) * (-10000000000 : Int64))), .second, .val (.int (10 : Int32))]) rfl w_k) ?_
                      show Gd _ _ _ _ (s₁.setTop (mkF m 44 #[.val (.long (-(Int64.ofNat n))), .second, .val (.int (0 : Int32)), .val (.long ((10 : Int64) * (-10000000000 : Int64))), .second, .val (.int (10 : Int32))] []))
                      refine Gd.go (fun _ w_k => XS.iinc X0.here hx rfl (hb hby d4_44) rfl (l' := #[.val (.long (-(Int64.ofNat n))), .second, .val (.int (0 : Int32)), .val (.long ((10 : Int64) * (-10000000000 : Int64))), .second, .val (.int ((10 : Int32) + (1 : Int32)))]) rfl w_k) ?_
                      show Gd _ _ _ _ (s₁.setTop (mkF m 47 #[.val (.long (-(Int64.ofNat n))), .second, .val (.int (0 : Int32)), .val (.long ((10 : Int64) * (-10000000000 : Int64))), .second, .val (.int ((10 : Int32) + (1 : Int32)))] []))
                      refine Gd.go (fun _ w_k => XS.goto X0.here hx rfl (pc0 := 47) (pc' := 20) rfl (hb hby d4_47) (by decide) (by decide) w_k) ?_
                      show Gd _ _ _ _ (s₁.setTop (mkF m 20 #[.val (.long (-(Int64.ofNat n))), .second, .val (.int (0 : Int32)), .val (.long ((10 : Int64) * (-10000000000 : Int64))), .second, .val (.int ((10 : Int32) + (1 : Int32)))] []))
                      rw [show ((10 : Int64) * (-10000000000 : Int64)) = (-100000000000 : Int64) from by decide, show ((10 : Int32) + (1 : Int32)) = (11 : Int32) from by decide]
                      show Gd _ _ _ _ (s₁.setTop (mkF m 20 #[.val (.long (-(Int64.ofNat n))), .second, .val (.int (0 : Int32)), .val (.long (-100000000000 : Int64)), .second, .val (.int (11 : Int32))] []))
                      refine Gd.go (fun _ w_k => XS.iload X0.here hx rfl (hb hby d4_20) rfl w_k) ?_
                      show Gd _ _ _ _ (s₁.setTop (mkF m 22 #[.val (.long (-(Int64.ofNat n))), .second, .val (.int (0 : Int32)), .val (.long (-100000000000 : Int64)), .second, .val (.int (11 : Int32))] [(.int (11 : Int32))]))
                      refine Gd.go (fun _ w_k => XS.bipush X0.here hx rfl (hb hby d4_22) w_k) ?_
                      show Gd _ _ _ _ (s₁.setTop (mkF m 24 #[.val (.long (-(Int64.ofNat n))), .second, .val (.int (0 : Int32)), .val (.long (-100000000000 : Int64)), .second, .val (.int (11 : Int32))] [(.int (19 : Int32)), (.int (11 : Int32))]))
                      refine Gd.go (fun _ w_k => XS.icmpNo X0.here hx rfl (hb hby d4_24) rfl (tlt (by decide)).2.1 w_k) ?_
                      show Gd _ _ _ _ (s₁.setTop (mkF m 27 #[.val (.long (-(Int64.ofNat n))), .second, .val (.int (0 : Int32)), .val (.long (-100000000000 : Int64)), .second, .val (.int (11 : Int32))] []))
                      refine Gd.go (fun _ w_k => XS.lloadN X0.here hx rfl (hb hby d4_27) rfl w_k) ?_
                      show Gd _ _ _ _ (s₁.setTop (mkF m 28 #[.val (.long (-(Int64.ofNat n))), .second, .val (.int (0 : Int32)), .val (.long (-100000000000 : Int64)), .second, .val (.int (11 : Int32))] [(.long (-(Int64.ofNat n)))]))
                      refine Gd.go (fun _ w_k => XS.lloadN X0.here hx rfl (hb hby d4_28) rfl w_k) ?_
                      show Gd _ _ _ _ (s₁.setTop (mkF m 29 #[.val (.long (-(Int64.ofNat n))), .second, .val (.int (0 : Int32)), .val (.long (-100000000000 : Int64)), .second, .val (.int (11 : Int32))] [(.long (-100000000000 : Int64)), (.long (-(Int64.ofNat n)))]))
                      refine Gd.go (fun _ w_k => XS.lcmp X0.here hx rfl (hb hby d4_29) rfl w_k) ?_
                      show Gd _ _ _ _ (s₁.setTop (mkF m 30 #[.val (.long (-(Int64.ofNat n))), .second, .val (.int (0 : Int32)), .val (.long (-100000000000 : Int64)), .second, .val (.int (11 : Int32))] [(.int (lcmpW (-(Int64.ofNat n)) (-100000000000 : Int64)))]))
                      by_cases hc11 : (-100000000000 : Int64) < (-(Int64.ofNat n))
                      · refine Gd.go (fun _ w_k => XS.ifNo X0.here hx rfl (hb hby d4_30) rfl ((if0 _ _).trans (tlt ((lw_gt _ _).mpr hc11)).2.2.2) w_k) ?_
                        show Gd _ _ _ _ (s₁.setTop (mkF m 33 #[.val (.long (-(Int64.ofNat n))), .second, .val (.int (0 : Int32)), .val (.long (-100000000000 : Int64)), .second, .val (.int (11 : Int32))] []))
                        refine Gd.go (fun _ w_k => XS.iload X0.here hx rfl (hb hby d4_33) rfl w_k) ?_
                        show Gd _ _ _ _ (s₁.setTop (mkF m 35 #[.val (.long (-(Int64.ofNat n))), .second, .val (.int (0 : Int32)), .val (.long (-100000000000 : Int64)), .second, .val (.int (11 : Int32))] [(.int (11 : Int32))]))
                        refine Gd.go (fun _ w_k => XS.iloadN X0.here hx rfl (hb hby d4_35) rfl w_k) ?_
                        show Gd _ _ _ _ (s₁.setTop (mkF m 36 #[.val (.long (-(Int64.ofNat n))), .second, .val (.int (0 : Int32)), .val (.long (-100000000000 : Int64)), .second, .val (.int (11 : Int32))] [(.int (0 : Int32)), (.int (11 : Int32))]))
                        refine Gd.go (fun _ w_k => XS.iadd X0.here hx rfl (hb hby d4_36) rfl w_k) ?_
                        show Gd _ _ _ _ (s₁.setTop (mkF m 37 #[.val (.long (-(Int64.ofNat n))), .second, .val (.int (0 : Int32)), .val (.long (-100000000000 : Int64)), .second, .val (.int (11 : Int32))] [(.int ((11 : Int32) + (0 : Int32)))]))
                        refine own_retI X0 hx hret hlk (hb hby d4_37) ?_ (by decide) (by decide)
                        have u1 := (own_sz hk hn (j := 11) (N := 100000000000) (by decide) (by decide) (P := (-100000000000 : Int64)) (by decide)).mp hc11
                        have u2 : ¬ k ≤ 10 := fun q => hc10 ((own_sz hk hn (j := 10) (N := 10000000000) (by decide) (by decide) (P := (-10000000000 : Int64)) (by decide)).mpr q)
                        have u3 := hk.1
                        have u4 := hk.2.1
                        obtain rfl : k = 11 := by omega
                        exact ⟨rfl, e0, rfl⟩
                      · refine Gd.go (fun _ w_k => XS.ifYes X0.here hx rfl (pc0 := 30) (pc' := 38) rfl (hb hby d4_30) rfl ((if0 _ _).trans (flt (fun q => hc11 ((lw_gt _ _).mp q))).2.2.2) (by decide) (by decide) w_k) ?_
                        show Gd _ _ _ _ (s₁.setTop (mkF m 38 #[.val (.long (-(Int64.ofNat n))), .second, .val (.int (0 : Int32)), .val (.long (-100000000000 : Int64)), .second, .val (.int (11 : Int32))] []))
                        refine Gd.go (fun _ w_k => X0.ldc2Long hx hown (mvT hZ (hw _ (List.mem_of_getElem? (i := 202) rfl))) (g := (mkF m 38 #[.val (.long (-(Int64.ofNat n))), .second, .val (.int (0 : Int32)), .val (.long (-100000000000 : Int64)), .second, .val (.int (11 : Int32))] [])) rfl (hb hby d4_38) _ w_k) ?_
                        show Gd _ _ _ _ (s₁.setTop (mkF m 41 #[.val (.long (-(Int64.ofNat n))), .second, .val (.int (0 : Int32)), .val (.long (-100000000000 : Int64)), .second, .val (.int (11 : Int32))] [(.long (10 : Int64))]))
                        refine Gd.go (fun _ w_k => XS.lloadN X0.here hx rfl (hb hby d4_41) rfl w_k) ?_
                        show Gd _ _ _ _ (s₁.setTop (mkF m 42 #[.val (.long (-(Int64.ofNat n))), .second, .val (.int (0 : Int32)), .val (.long (-100000000000 : Int64)), .second, .val (.int (11 : Int32))] [(.long (-100000000000 : Int64)), (.long (10 : Int64))]))
                        refine Gd.go (fun _ w_k => XS.lmul X0.here hx rfl (hb hby d4_42) rfl w_k) ?_
                        show Gd _ _ _ _ (s₁.setTop (mkF m 43 #[.val (.long (-(Int64.ofNat n))), .second, .val (.int (0 : Int32)), .val (.long (-100000000000 : Int64)), .second, .val (.int (11 : Int32))] [(.long ((10 : Int64) * (-100000000000 : Int64)))]))
                        refine Gd.go (fun _ w_k => XS.lstoreN X0.here hx rfl (hb hby d4_43) rfl (l' := #[.val (.long (-(Int64.ofNat n))), .second, .val (.int (0 : Int32)), .val (.long ((10 : Int64) * (-100000000000 : Int64))), .second, .val (.int (11 : Int32))]) rfl w_k) ?_
                        show Gd _ _ _ _ (s₁.setTop (mkF m 44 #[.val (.long (-(Int64.ofNat n))), .second, .val (.int (0 : Int32)), .val (.long ((10 : Int64) * (-100000000000 : Int64))), .second, .val (.int (11 : Int32))] []))
                        refine Gd.go (fun _ w_k => XS.iinc X0.here hx rfl (hb hby d4_44) rfl (l' := #[.val (.long (-(Int64.ofNat n))), .second, .val (.int (0 : Int32)), .val (.long ((10 : Int64) * (-100000000000 : Int64))), .second, .val (.int ((11 : Int32) + (1 : Int32)))]) rfl w_k) ?_
                        show Gd _ _ _ _ (s₁.setTop (mkF m 47 #[.val (.long (-(Int64.ofNat n))), .second, .val (.int (0 : Int32)), .val (.long ((10 : Int64) * (-100000000000 : Int64))), .second, .val (.int ((11 : Int32) + (1 : Int32)))] []))
                        refine Gd.go (fun _ w_k => XS.goto X0.here hx rfl (pc0 := 47) (pc' := 20) rfl (hb hby d4_47) (by decide) (by decide) w_k) ?_
                        show Gd _ _ _ _ (s₁.setTop (mkF m 20 #[.val (.long (-(Int64.ofNat n))), .second, .val (.int (0 : Int32)), .val (.long ((10 : Int64) * (-100000000000 : Int64))), .second, .val (.int ((11 : Int32) + (1 : Int32)))] []))
                        rw [show ((10 : Int64) * (-100000000000 : Int64)) = (-1000000000000 : Int64) from by decide, show ((11 : Int32) + (1 : Int32)) = (12 : Int32) from by decide]
                        show Gd _ _ _ _ (s₁.setTop (mkF m 20 #[.val (.long (-(Int64.ofNat n))), .second, .val (.int (0 : Int32)), .val (.long (-1000000000000 : Int64)), .second, .val (.int (12 : Int32))] []))
                        refine Gd.go (fun _ w_k => XS.iload X0.here hx rfl (hb hby d4_20) rfl w_k) ?_
                        show Gd _ _ _ _ (s₁.setTop (mkF m 22 #[.val (.long (-(Int64.ofNat n))), .second, .val (.int (0 : Int32)), .val (.long (-1000000000000 : Int64)), .second, .val (.int (12 : Int32))] [(.int (12 : Int32))]))
                        refine Gd.go (fun _ w_k => XS.bipush X0.here hx rfl (hb hby d4_22) w_k) ?_
                        show Gd _ _ _ _ (s₁.setTop (mkF m 24 #[.val (.long (-(Int64.ofNat n))), .second, .val (.int (0 : Int32)), .val (.long (-1000000000000 : Int64)), .second, .val (.int (12 : Int32))] [(.int (19 : Int32)), (.int (12 : Int32))]))
                        refine Gd.go (fun _ w_k => XS.icmpNo X0.here hx rfl (hb hby d4_24) rfl (tlt (by decide)).2.1 w_k) ?_
                        show Gd _ _ _ _ (s₁.setTop (mkF m 27 #[.val (.long (-(Int64.ofNat n))), .second, .val (.int (0 : Int32)), .val (.long (-1000000000000 : Int64)), .second, .val (.int (12 : Int32))] []))
                        refine Gd.go (fun _ w_k => XS.lloadN X0.here hx rfl (hb hby d4_27) rfl w_k) ?_
                        show Gd _ _ _ _ (s₁.setTop (mkF m 28 #[.val (.long (-(Int64.ofNat n))), .second, .val (.int (0 : Int32)), .val (.long (-1000000000000 : Int64)), .second, .val (.int (12 : Int32))] [(.long (-(Int64.ofNat n)))]))
                        refine Gd.go (fun _ w_k => XS.lloadN X0.here hx rfl (hb hby d4_28) rfl w_k) ?_
                        show Gd _ _ _ _ (s₁.setTop (mkF m 29 #[.val (.long (-(Int64.ofNat n))), .second, .val (.int (0 : Int32)), .val (.long (-1000000000000 : Int64)), .second, .val (.int (12 : Int32))] [(.long (-1000000000000 : Int64)), (.long (-(Int64.ofNat n)))]))
                        refine Gd.go (fun _ w_k => XS.lcmp X0.here hx rfl (hb hby d4_29) rfl w_k) ?_
                        show Gd _ _ _ _ (s₁.setTop (mkF m 30 #[.val (.long (-(Int64.ofNat n))), .second, .val (.int (0 : Int32)), .val (.long (-1000000000000 : Int64)), .second, .val (.int (12 : Int32))] [(.int (lcmpW (-(Int64.ofNat n)) (-1000000000000 : Int64)))]))
                        by_cases hc12 : (-1000000000000 : Int64) < (-(Int64.ofNat n))
                        · refine Gd.go (fun _ w_k => XS.ifNo X0.here hx rfl (hb hby d4_30) rfl ((if0 _ _).trans (tlt ((lw_gt _ _).mpr hc12)).2.2.2) w_k) ?_
                          show Gd _ _ _ _ (s₁.setTop (mkF m 33 #[.val (.long (-(Int64.ofNat n))), .second, .val (.int (0 : Int32)), .val (.long (-1000000000000 : Int64)), .second, .val (.int (12 : Int32))] []))
                          refine Gd.go (fun _ w_k => XS.iload X0.here hx rfl (hb hby d4_33) rfl w_k) ?_
                          show Gd _ _ _ _ (s₁.setTop (mkF m 35 #[.val (.long (-(Int64.ofNat n))), .second, .val (.int (0 : Int32)), .val (.long (-1000000000000 : Int64)), .second, .val (.int (12 : Int32))] [(.int (12 : Int32))]))
                          refine Gd.go (fun _ w_k => XS.iloadN X0.here hx rfl (hb hby d4_35) rfl w_k) ?_
                          show Gd _ _ _ _ (s₁.setTop (mkF m 36 #[.val (.long (-(Int64.ofNat n))), .second, .val (.int (0 : Int32)), .val (.long (-1000000000000 : Int64)), .second, .val (.int (12 : Int32))] [(.int (0 : Int32)), (.int (12 : Int32))]))
                          refine Gd.go (fun _ w_k => XS.iadd X0.here hx rfl (hb hby d4_36) rfl w_k) ?_
                          show Gd _ _ _ _ (s₁.setTop (mkF m 37 #[.val (.long (-(Int64.ofNat n))), .second, .val (.int (0 : Int32)), .val (.long (-1000000000000 : Int64)), .second, .val (.int (12 : Int32))] [(.int ((12 : Int32) + (0 : Int32)))]))
                          refine own_retI X0 hx hret hlk (hb hby d4_37) ?_ (by decide) (by decide)
                          have u1 := (own_sz hk hn (j := 12) (N := 1000000000000) (by decide) (by decide) (P := (-1000000000000 : Int64)) (by decide)).mp hc12
                          have u2 : ¬ k ≤ 11 := fun q => hc11 ((own_sz hk hn (j := 11) (N := 100000000000) (by decide) (by decide) (P := (-100000000000 : Int64)) (by decide)).mpr q)
                          have u3 := hk.1
                          have u4 := hk.2.1
                          obtain rfl : k = 12 := by omega
                          exact ⟨rfl, e0, rfl⟩
                        · refine Gd.go (fun _ w_k => XS.ifYes X0.here hx rfl (pc0 := 30) (pc' := 38) rfl (hb hby d4_30) rfl ((if0 _ _).trans (flt (fun q => hc12 ((lw_gt _ _).mp q))).2.2.2) (by decide) (by decide) w_k) ?_
                          show Gd _ _ _ _ (s₁.setTop (mkF m 38 #[.val (.long (-(Int64.ofNat n))), .second, .val (.int (0 : Int32)), .val (.long (-1000000000000 : Int64)), .second, .val (.int (12 : Int32))] []))
                          refine Gd.go (fun _ w_k => X0.ldc2Long hx hown (mvT hZ (hw _ (List.mem_of_getElem? (i := 202) rfl))) (g := (mkF m 38 #[.val (.long (-(Int64.ofNat n))), .second, .val (.int (0 : Int32)), .val (.long (-1000000000000 : Int64)), .second, .val (.int (12 : Int32))] [])) rfl (hb hby d4_38) _ w_k) ?_
                          show Gd _ _ _ _ (s₁.setTop (mkF m 41 #[.val (.long (-(Int64.ofNat n))), .second, .val (.int (0 : Int32)), .val (.long (-1000000000000 : Int64)), .second, .val (.int (12 : Int32))] [(.long (10 : Int64))]))
                          refine Gd.go (fun _ w_k => XS.lloadN X0.here hx rfl (hb hby d4_41) rfl w_k) ?_
                          show Gd _ _ _ _ (s₁.setTop (mkF m 42 #[.val (.long (-(Int64.ofNat n))), .second, .val (.int (0 : Int32)), .val (.long (-1000000000000 : Int64)), .second, .val (.int (12 : Int32))] [(.long (-1000000000000 : Int64)), (.long (10 : Int64))]))
                          refine Gd.go (fun _ w_k => XS.lmul X0.here hx rfl (hb hby d4_42) rfl w_k) ?_
                          show Gd _ _ _ _ (s₁.setTop (mkF m 43 #[.val (.long (-(Int64.ofNat n))), .second, .val (.int (0 : Int32)), .val (.long (-1000000000000 : Int64)), .second, .val (.int (12 : Int32))] [(.long ((10 : Int64) * (-1000000000000 : Int64)))]))
                          refine Gd.go (fun _ w_k => XS.lstoreN X0.here hx rfl (hb hby d4_43) rfl (l' := #[.val (.long (-(Int64.ofNat n))), .second, .val (.int (0 : Int32)), .val (.long ((10 : Int64) * (-1000000000000 : Int64))), .second, .val (.int (12 : Int32))]) rfl w_k) ?_
                          show Gd _ _ _ _ (s₁.setTop (mkF m 44 #[.val (.long (-(Int64.ofNat n))), .second, .val (.int (0 : Int32)), .val (.long ((10 : Int64) * (-1000000000000 : Int64))), .second, .val (.int (12 : Int32))] []))
                          refine Gd.go (fun _ w_k => XS.iinc X0.here hx rfl (hb hby d4_44) rfl (l' := #[.val (.long (-(Int64.ofNat n))), .second, .val (.int (0 : Int32)), .val (.long ((10 : Int64) * (-1000000000000 : Int64))), .second, .val (.int ((12 : Int32) + (1 : Int32)))]) rfl w_k) ?_
                          show Gd _ _ _ _ (s₁.setTop (mkF m 47 #[.val (.long (-(Int64.ofNat n))), .second, .val (.int (0 : Int32)), .val (.long ((10 : Int64) * (-1000000000000 : Int64))), .second, .val (.int ((12 : Int32) + (1 : Int32)))] []))
                          refine Gd.go (fun _ w_k => XS.goto X0.here hx rfl (pc0 := 47) (pc' := 20) rfl (hb hby d4_47) (by decide) (by decide) w_k) ?_
                          show Gd _ _ _ _ (s₁.setTop (mkF m 20 #[.val (.long (-(Int64.ofNat n))), .second, .val (.int (0 : Int32)), .val (.long ((10 : Int64) * (-1000000000000 : Int64))), .second, .val (.int ((12 : Int32) + (1 : Int32)))] []))
                          rw [show ((10 : Int64) * (-1000000000000 : Int64)) = (-10000000000000 : Int64) from by decide, show ((12 : Int32) + (1 : Int32)) = (13 : Int32) from by decide]
                          show Gd _ _ _ _ (s₁.setTop (mkF m 20 #[.val (.long (-(Int64.ofNat n))), .second, .val (.int (0 : Int32)), .val (.long (-10000000000000 : Int64)), .second, .val (.int (13 : Int32))] []))
                          refine Gd.go (fun _ w_k => XS.iload X0.here hx rfl (hb hby d4_20) rfl w_k) ?_
                          show Gd _ _ _ _ (s₁.setTop (mkF m 22 #[.val (.long (-(Int64.ofNat n))), .second, .val (.int (0 : Int32)), .val (.long (-10000000000000 : Int64)), .second, .val (.int (13 : Int32))] [(.int (13 : Int32))]))
                          refine Gd.go (fun _ w_k => XS.bipush X0.here hx rfl (hb hby d4_22) w_k) ?_
                          show Gd _ _ _ _ (s₁.setTop (mkF m 24 #[.val (.long (-(Int64.ofNat n))), .second, .val (.int (0 : Int32)), .val (.long (-10000000000000 : Int64)), .second, .val (.int (13 : Int32))] [(.int (19 : Int32)), (.int (13 : Int32))]))
                          refine Gd.go (fun _ w_k => XS.icmpNo X0.here hx rfl (hb hby d4_24) rfl (tlt (by decide)).2.1 w_k) ?_
                          show Gd _ _ _ _ (s₁.setTop (mkF m 27 #[.val (.long (-(Int64.ofNat n))), .second, .val (.int (0 : Int32)), .val (.long (-10000000000000 : Int64)), .second, .val (.int (13 : Int32))] []))
                          refine Gd.go (fun _ w_k => XS.lloadN X0.here hx rfl (hb hby d4_27) rfl w_k) ?_
                          show Gd _ _ _ _ (s₁.setTop (mkF m 28 #[.val (.long (-(Int64.ofNat n))), .second, .val (.int (0 : Int32)), .val (.long (-10000000000000 : Int64)), .second, .val (.int (13 : Int32))] [(.long (-(Int64.ofNat n)))]))
                          refine Gd.go (fun _ w_k => XS.lloadN X0.here hx rfl (hb hby d4_28) rfl w_k) ?_
                          show Gd _ _ _ _ (s₁.setTop (mkF m 29 #[.val (.long (-(Int64.ofNat n))), .second, .val (.int (0 : Int32)), .val (.long (-10000000000000 : Int64)), .second, .val (.int (13 : Int32))] [(.long (-10000000000000 : Int64)), (.long (-(Int64.ofNat n)))]))
                          refine Gd.go (fun _ w_k => XS.lcmp X0.here hx rfl (hb hby d4_29) rfl w_k) ?_
                          show Gd _ _ _ _ (s₁.setTop (mkF m 30 #[.val (.long (-(Int64.ofNat n))), .second, .val (.int (0 : Int32)), .val (.long (-10000000000000 : Int64)), .second, .val (.int (13 : Int32))] [(.int (lcmpW (-(Int64.ofNat n)) (-10000000000000 : Int64)))]))
                          by_cases hc13 : (-10000000000000 : Int64) < (-(Int64.ofNat n))
                          · refine Gd.go (fun _ w_k => XS.ifNo X0.here hx rfl (hb hby d4_30) rfl ((if0 _ _).trans (tlt ((lw_gt _ _).mpr hc13)).2.2.2) w_k) ?_
                            show Gd _ _ _ _ (s₁.setTop (mkF m 33 #[.val (.long (-(Int64.ofNat n))), .second, .val (.int (0 : Int32)), .val (.long (-10000000000000 : Int64)), .second, .val (.int (13 : Int32))] []))
                            refine Gd.go (fun _ w_k => XS.iload X0.here hx rfl (hb hby d4_33) rfl w_k) ?_
                            show Gd _ _ _ _ (s₁.setTop (mkF m 35 #[.val (.long (-(Int64.ofNat n))), .second, .val (.int (0 : Int32)), .val (.long (-10000000000000 : Int64)), .second, .val (.int (13 : Int32))] [(.int (13 : Int32))]))
                            refine Gd.go (fun _ w_k => XS.iloadN X0.here hx rfl (hb hby d4_35) rfl w_k) ?_
                            show Gd _ _ _ _ (s₁.setTop (mkF m 36 #[.val (.long (-(Int64.ofNat n))), .second, .val (.int (0 : Int32)), .val (.long (-10000000000000 : Int64)), .second, .val (.int (13 : Int32))] [(.int (0 : Int32)), (.int (13 : Int32))]))
                            refine Gd.go (fun _ w_k => XS.iadd X0.here hx rfl (hb hby d4_36) rfl w_k) ?_
                            show Gd _ _ _ _ (s₁.setTop (mkF m 37 #[.val (.long (-(Int64.ofNat n))), .second, .val (.int (0 : Int32)), .val (.long (-10000000000000 : Int64)), .second, .val (.int (13 : Int32))] [(.int ((13 : Int32) + (0 : Int32)))]))
                            refine own_retI X0 hx hret hlk (hb hby d4_37) ?_ (by decide) (by decide)
                            have u1 := (own_sz hk hn (j := 13) (N := 10000000000000) (by decide) (by decide) (P := (-10000000000000 : Int64)) (by decide)).mp hc13
                            have u2 : ¬ k ≤ 12 := fun q => hc12 ((own_sz hk hn (j := 12) (N := 1000000000000) (by decide) (by decide) (P := (-1000000000000 : Int64)) (by decide)).mpr q)
                            have u3 := hk.1
                            have u4 := hk.2.1
                            obtain rfl : k = 13 := by omega
                            exact ⟨rfl, e0, rfl⟩
                          · refine Gd.go (fun _ w_k => XS.ifYes X0.here hx rfl (pc0 := 30) (pc' := 38) rfl (hb hby d4_30) rfl ((if0 _ _).trans (flt (fun q => hc13 ((lw_gt _ _).mp q))).2.2.2) (by decide) (by decide) w_k) ?_
                            show Gd _ _ _ _ (s₁.setTop (mkF m 38 #[.val (.long (-(Int64.ofNat n))), .second, .val (.int (0 : Int32)), .val (.long (-10000000000000 : Int64)), .second, .val (.int (13 : Int32))] []))
                            refine Gd.go (fun _ w_k => X0.ldc2Long hx hown (mvT hZ (hw _ (List.mem_of_getElem? (i := 202) rfl))) (g := (mkF m 38 #[.val (.long (-(Int64.ofNat n))), .second, .val (.int (0 : Int32)), .val (.long (-10000000000000 : Int64)), .second, .val (.int (13 : Int32))] [])) rfl (hb hby d4_38) _ w_k) ?_
                            show Gd _ _ _ _ (s₁.setTop (mkF m 41 #[.val (.long (-(Int64.ofNat n))), .second, .val (.int (0 : Int32)), .val (.long (-10000000000000 : Int64)), .second, .val (.int (13 : Int32))] [(.long (10 : Int64))]))
                            refine Gd.go (fun _ w_k => XS.lloadN X0.here hx rfl (hb hby d4_41) rfl w_k) ?_
                            show Gd _ _ _ _ (s₁.setTop (mkF m 42 #[.val (.long (-(Int64.ofNat n))), .second, .val (.int (0 : Int32)), .val (.long (-10000000000000 : Int64)), .second, .val (.int (13 : Int32))] [(.long (-10000000000000 : Int64)), (.long (10 : Int64))]))
                            refine Gd.go (fun _ w_k => XS.lmul X0.here hx rfl (hb hby d4_42) rfl w_k) ?_
                            show Gd _ _ _ _ (s₁.setTop (mkF m 43 #[.val (.long (-(Int64.ofNat n))), .second, .val (.int (0 : Int32)), .val (.long (-10000000000000 : Int64)), .second, .val (.int (13 : Int32))] [(.long ((10 : Int64) * (-10000000000000 : Int64)))]))
                            refine Gd.go (fun _ w_k => XS.lstoreN X0.here hx rfl (hb hby d4_43) rfl (l' := #[.val (.long (-(Int64.ofNat n))), .second, .val (.int (0 : Int32)), .val (.long ((10 : Int64) * (-10000000000000 : Int64))), .second, .val (.int (13 : Int32))]) rfl w_k) ?_
                            show Gd _ _ _ _ (s₁.setTop (mkF m 44 #[.val (.long (-(Int64.ofNat n))), .second, .val (.int (0 : Int32)), .val (.long ((10 : Int64) * (-10000000000000 : Int64))), .second, .val (.int (13 : Int32))] []))
                            refine Gd.go (fun _ w_k => XS.iinc X0.here hx rfl (hb hby d4_44) rfl (l' := #[.val (.long (-(Int64.ofNat n))), .second, .val (.int (0 : Int32)), .val (.long ((10 : Int64) * (-10000000000000 : Int64))), .second, .val (.int ((13 : Int32) + (1 : Int32)))]) rfl w_k) ?_
                            show Gd _ _ _ _ (s₁.setTop (mkF m 47 #[.val (.long (-(Int64.ofNat n))), .second, .val (.int (0 : Int32)), .val (.long ((10 : Int64) * (-10000000000000 : Int64))), .second, .val (.int ((13 : Int32) + (1 : Int32)))] []))
                            refine Gd.go (fun _ w_k => XS.goto X0.here hx rfl (pc0 := 47) (pc' := 20) rfl (hb hby d4_47) (by decide) (by decide) w_k) ?_
                            show Gd _ _ _ _ (s₁.setTop (mkF m 20 #[.val (.long (-(Int64.ofNat n))), .second, .val (.int (0 : Int32)), .val (.long ((10 : Int64) * (-10000000000000 : Int64))), .second, .val (.int ((13 : Int32) + (1 : Int32)))] []))
                            rw [show ((10 : Int64) * (-10000000000000 : Int64)) = (-100000000000000 : Int64) from by decide, show ((13 : Int32) + (1 : Int32)) = (14 : Int32) from by decide]
                            show Gd _ _ _ _ (s₁.setTop (mkF m 20 #[.val (.long (-(Int64.ofNat n))), .second, .val (.int (0 : Int32)), .val (.long (-100000000000000 : Int64)), .second, .val (.int (14 : Int32))] []))
                            refine Gd.go (fun _ w_k => XS.iload X0.here hx rfl (hb hby d4_20) rfl w_k) ?_
                            show Gd _ _ _ _ (s₁.setTop (mkF m 22 #[.val (.long (-(Int64.ofNat n))), .second, .val (.int (0 : Int32)), .val (.long (-100000000000000 : Int64)), .second, .val (.int (14 : Int32))] [(.int (14 : Int32))]))
                            refine Gd.go (fun _ w_k => XS.bipush X0.here hx rfl (hb hby d4_22) w_k) ?_
                            show Gd _ _ _ _ (s₁.setTop (mkF m 24 #[.val (.long (-(Int64.ofNat n))), .second, .val (.int (0 : Int32)), .val (.long (-100000000000000 : Int64)), .second, .val (.int (14 : Int32))] [(.int (19 : Int32)), (.int (14 : Int32))]))
                            refine Gd.go (fun _ w_k => XS.icmpNo X0.here hx rfl (hb hby d4_24) rfl (tlt (by decide)).2.1 w_k) ?_
                            show Gd _ _ _ _ (s₁.setTop (mkF m 27 #[.val (.long (-(Int64.ofNat n))), .second, .val (.int (0 : Int32)), .val (.long (-100000000000000 : Int64)), .second, .val (.int (14 : Int32))] []))
                            refine Gd.go (fun _ w_k => XS.lloadN X0.here hx rfl (hb hby d4_27) rfl w_k) ?_
                            show Gd _ _ _ _ (s₁.setTop (mkF m 28 #[.val (.long (-(Int64.ofNat n))), .second, .val (.int (0 : Int32)), .val (.long (-100000000000000 : Int64)), .second, .val (.int (14 : Int32))] [(.long (-(Int64.ofNat n)))]))
                            refine Gd.go (fun _ w_k => XS.lloadN X0.here hx rfl (hb hby d4_28) rfl w_k) ?_
                            show Gd _ _ _ _ (s₁.setTop (mkF m 29 #[.val (.long (-(Int64.ofNat n))), .second, .val (.int (0 : Int32)), .val (.long (-100000000000000 : Int64)), .second, .val (.int (14 : Int32))] [(.long (-100000000000000 : Int64)), (.long (-(Int64.ofNat n)))]))
                            refine Gd.go (fun _ w_k => XS.lcmp X0.here hx rfl (hb hby d4_29) rfl w_k) ?_
                            show Gd _ _ _ _ (s₁.setTop (mkF m 30 #[.val (.long (-(Int64.ofNat n))), .second, .val (.int (0 : Int32)), .val (.long (-100000000000000 : Int64)), .second, .val (.int (14 : Int32))] [(.int (lcmpW (-(Int64.ofNat n)) (-100000000000000 : Int64)))]))
                            by_cases hc14 : (-100000000000000 : Int64) < (-(Int64.ofNat n))
                            · refine Gd.go (fun _ w_k => XS.ifNo X0.here hx rfl (hb hby d4_30) rfl ((if0 _ _).trans (tlt ((lw_gt _ _).mpr hc14)).2.2.2) w_k) ?_
                              show Gd _ _ _ _ (s₁.setTop (mkF m 33 #[.val (.long (-(Int64.ofNat n))), .second, .val (.int (0 : Int32)), .val (.long (-100000000000000 : Int64)), .second, .val (.int (14 : Int32))] []))
                              refine Gd.go (fun _ w_k => XS.iload X0.here hx rfl (hb hby d4_33) rfl w_k) ?_
                              show Gd _ _ _ _ (s₁.setTop (mkF m 35 #[.val (.long (-(Int64.ofNat n))), .second, .val (.int (0 : Int32)), .val (.long (-100000000000000 : Int64)), .second, .val (.int (14 : Int32))] [(.int (14 : Int32))]))
                              refine Gd.go (fun _ w_k => XS.iloadN X0.here hx rfl (hb hby d4_35) rfl w_k) ?_
                              show Gd _ _ _ _ (s₁.setTop (mkF m 36 #[.val (.long (-(Int64.ofNat n))), .second, .val (.int (0 : Int32)), .val (.long (-100000000000000 : Int64)), .second, .val (.int (14 : Int32))] [(.int (0 : Int32)), (.int (14 : Int32))]))
                              refine Gd.go (fun _ w_k => XS.iadd X0.here hx rfl (hb hby d4_36) rfl w_k) ?_
                              show Gd _ _ _ _ (s₁.setTop (mkF m 37 #[.val (.long (-(Int64.ofNat n))), .second, .val (.int (0 : Int32)), .val (.long (-100000000000000 : Int64)), .second, .val (.int (14 : Int32))] [(.int ((14 : Int32) + (0 : Int32)))]))
                              refine own_retI X0 hx hret hlk (hb hby d4_37) ?_ (by decide) (by decide)
                              have u1 := (own_sz hk hn (j := 14) (N := 100000000000000) (by decide) (by decide) (P := (-100000000000000 : Int64)) (by decide)).mp hc14
                              have u2 : ¬ k ≤ 13 := fun q => hc13 ((own_sz hk hn (j := 13) (N := 10000000000000) (by decide) (by decide) (P := (-10000000000000 : Int64)) (by decide)).mpr q)
                              have u3 := hk.1
                              have u4 := hk.2.1
                              obtain rfl : k = 14 := by omega
                              exact ⟨rfl, e0, rfl⟩
                            · refine Gd.go (fun _ w_k => XS.ifYes X0.here hx rfl (pc0 := 30) (pc' := 38) rfl (hb hby d4_30) rfl ((if0 _ _).trans (flt (fun q => hc14 ((lw_gt _ _).mp q))).2.2.2) (by decide) (by decide) w_k) ?_
                              show Gd _ _ _ _ (s₁.setTop (mkF m 38 #[.val (.long (-(Int64.ofNat n))), .second, .val (.int (0 : Int32)), .val (.long (-100000000000000 : Int64)), .second, .val (.int (14 : Int32))] []))
                              refine Gd.go (fun _ w_k => X0.ldc2Long hx hown (mvT hZ (hw _ (List.mem_of_getElem? (i := 202) rfl))) (g := (mkF m 38 #[.val (.long (-(Int64.ofNat n))), .second, .val (.int (0 : Int32)), .val (.long (-100000000000000 : Int64)), .second, .val (.int (14 : Int32))] [])) rfl (hb hby d4_38) _ w_k) ?_
                              show Gd _ _ _ _ (s₁.setTop (mkF m 41 #[.val (.long (-(Int64.ofNat n))), .second, .val (.int (0 : Int32)), .val (.long (-100000000000000 : Int64)), .second, .val (.int (14 : Int32))] [(.long (10 : Int64))]))
                              refine Gd.go (fun _ w_k => XS.lloadN X0.here hx rfl (hb hby d4_41) rfl w_k) ?_
                              show Gd _ _ _ _ (s₁.setTop (mkF m 42 #[.val (.long (-(Int64.ofNat n))), .second, .val (.int (0 : Int32)), .val (.long (-100000000000000 : Int64)), .second, .val (.int (14 : Int32))] [(.long (-100000000000000 : Int64)), (.long (10 : Int64))]))
                              refine Gd.go (fun _ w_k => XS.lmul X0.here hx rfl (hb hby d4_42) rfl w_k) ?_
                              show Gd _ _ _ _ (s₁.setTop (mkF m 43 #[.val (.long (-(Int64.ofNat n))), .second, .val (.int (0 : Int32)), .val (.long (-100000000000000 : Int64)), .second, .val (.int (14 : Int32))] [(.long ((10 : Int64) * (-100000000000000 : Int64)))]))
                              refine Gd.go (fun _ w_k => XS.lstoreN X0.here hx rfl (hb hby d4_43) rfl (l' := #[.val (.long (-(Int64.ofNat n))), .second, .val (.int (0 : Int32)), .val (.long ((10 : Int64) * (-100000000000000 : Int64))), .second, .val (.int (14 : Int32))]) rfl w_k) ?_
                              show Gd _ _ _ _ (s₁.setTop (mkF m 44 #[.val (.long (-(Int64.ofNat n))), .second, .val (.int (0 : Int32)), .val (.long ((10 : Int64) * (-100000000000000 : Int64))), .second, .val (.int (14 : Int32))] []))
                              refine Gd.go (fun _ w_k => XS.iinc X0.here hx rfl (hb hby d4_44) rfl (l' := #[.val (.long (-(Int64.ofNat n))), .second, .val (.int (0 : Int32)), .val (.long ((10 : Int64) * (-100000000000000 : Int64))), .second, .val (.int ((14 : Int32) + (1 : Int32)))]) rfl w_k) ?_
                              show Gd _ _ _ _ (s₁.setTop (mkF m 47 #[.val (.long (-(Int64.ofNat n))), .second, .val (.int (0 : Int32)), .val (.long ((10 : Int64) * (-100000000000000 : Int64))), .second, .val (.int ((14 : Int32) + (1 : Int32)))] []))
                              refine Gd.go (fun _ w_k => XS.goto X0.here hx rfl (pc0 := 47) (pc' := 20) rfl (hb hby d4_47) (by decide) (by decide) w_k) ?_
                              show Gd _ _ _ _ (s₁.setTop (mkF m 20 #[.val (.long (-(Int64.ofNat n))), .second, .val (.int (0 : Int32)), .val (.long ((10 : Int64) * (-100000000000000 : Int64))), .second, .val (.int ((14 : Int32) + (1 : Int32)))] []))
                              rw [show ((10 : Int64) * (-100000000000000 : Int64)) = (-1000000000000000 : Int64) from by decide, show ((14 : Int32) + (1 : Int32)) = (15 : Int32) from by decide]
                              show Gd _ _ _ _ (s₁.setTop (mkF m 20 #[.val (.long (-(Int64.ofNat n))), .second, .val (.int (0 : Int32)), .val (.long (-1000000000000000 : Int64)), .second, .val (.int (15 : Int32))] []))
                              refine Gd.go (fun _ w_k => XS.iload X0.here hx rfl (hb hby d4_20) rfl w_k) ?_
                              show Gd _ _ _ _ (s₁.setTop (mkF m 22 #[.val (.long (-(Int64.ofNat n))), .second, .val (.int (0 : Int32)), .val (.long (-1000000000000000 : Int64)), .second, .val (.int (15 : Int32))] [(.int (15 : Int32))]))
                              refine Gd.go (fun _ w_k => XS.bipush X0.here hx rfl (hb hby d4_22) w_k) ?_
                              show Gd _ _ _ _ (s₁.setTop (mkF m 24 #[.val (.long (-(Int64.ofNat n))), .second, .val (.int (0 : Int32)), .val (.long (-1000000000000000 : Int64)), .second, .val (.int (15 : Int32))] [(.int (19 : Int32)), (.int (15 : Int32))]))
                              refine Gd.go (fun _ w_k => XS.icmpNo X0.here hx rfl (hb hby d4_24) rfl (tlt (by decide)).2.1 w_k) ?_
                              show Gd _ _ _ _ (s₁.setTop (mkF m 27 #[.val (.long (-(Int64.ofNat n))), .second, .val (.int (0 : Int32)), .val (.long (-1000000000000000 : Int64)), .second, .val (.int (15 : Int32))] []))
                              refine Gd.go (fun _ w_k => XS.lloadN X0.here hx rfl (hb hby d4_27) rfl w_k) ?_
                              show Gd _ _ _ _ (s₁.setTop (mkF m 28 #[.val (.long (-(Int64.ofNat n))), .second, .val (.int (0 : Int32)), .val (.long (-1000000000000000 : Int64)), .second, .val (.int (15 : Int32))] [(.long (-(Int64.ofNat n)))]))
                              refine Gd.go (fun _ w_k => XS.lloadN X0.here hx rfl (hb hby d4_28) rfl w_k) ?_
                              show Gd _ _ _ _ (s₁.setTop (mkF m 29 #[.val (.long (-(Int64.ofNat n))), .second, .val (.int (0 : Int32)), .val (.long (-1000000000000000 : Int64)), .second, .val (.int (15 : Int32))] [(.long (-1000000000000000 : Int64)), (.long (-(Int64.ofNat n)))]))
                              refine Gd.go (fun _ w_k => XS.lcmp X0.here hx rfl (hb hby d4_29) rfl w_k) ?_
                              show Gd _ _ _ _ (s₁.setTop (mkF m 30 #[.val (.long (-(Int64.ofNat n))), .second, .val (.int (0 : Int32)), .val (.long (-1000000000000000 : Int64)), .second, .val (.int (15 : Int32))] [(.int (lcmpW (-(Int64.ofNat n)) (-1000000000000000 : Int64)))]))
                              by_cases hc15 : (-1000000000000000 : Int64) < (-(Int64.ofNat n))
                              · refine Gd.go (fun _ w_k => XS.ifNo X0.here hx rfl (hb hby d4_30) rfl ((if0 _ _).trans (tlt ((lw_gt _ _).mpr hc15)).2.2.2) w_k) ?_
                                show Gd _ _ _ _ (s₁.setTop (mkF m 33 #[.val (.long (-(Int64.ofNat n))), .second, .val (.int (0 : Int32)), .val (.long (-1000000000000000 : Int64)), .second, .val (.int (15 : Int32))] []))
                                refine Gd.go (fun _ w_k => XS.iload X0.here hx rfl (hb hby d4_33) rfl w_k) ?_
                                show Gd _ _ _ _ (s₁.setTop (mkF m 35 #[.val (.long (-(Int64.ofNat n))), .second, .val (.int (0 : Int32)), .val (.long (-1000000000000000 : Int64)), .second, .val (.int (15 : Int32))] [(.int (15 : Int32))]))
                                refine Gd.go (fun _ w_k => XS.iloadN X0.here hx rfl (hb hby d4_35) rfl w_k) ?_
                                show Gd _ _ _ _ (s₁.setTop (mkF m 36 #[.val (.long (-(Int64.ofNat n))), .second, .val (.int (0 : Int32)), .val (.long (-1000000000000000 : Int64)), .second, .val (.int (15 : Int32))] [(.int (0 : Int32)), (.int (15 : Int32))]))
                                refine Gd.go (fun _ w_k => XS.iadd X0.here hx rfl (hb hby d4_36) rfl w_k) ?_
                                show Gd _ _ _ _ (s₁.setTop (mkF m 37 #[.val (.long (-(Int64.ofNat n))), .second, .val (.int (0 : Int32)), .val (.long (-1000000000000000 : Int64)), .second, .val (.int (15 : Int32))] [(.int ((15 : Int32) + (0 : Int32)))]))
                                refine own_retI X0 hx hret hlk (hb hby d4_37) ?_ (by decide) (by decide)
                                have u1 := (own_sz hk hn (j := 15) (N := 1000000000000000) (by decide) (by decide) (P := (-1000000000000000 : Int64)) (by decide)).mp hc15
                                have u2 : ¬ k ≤ 14 := fun q => hc14 ((own_sz hk hn (j := 14) (N := 100000000000000) (by decide) (by decide) (P := (-100000000000000 : Int64)) (by decide)).mpr q)
                                have u3 := hk.1
                                have u4 := hk.2.1
                                obtain rfl : k = 15 := by omega
                                exact ⟨rfl, e0, rfl⟩
                              · refine Gd.go (fun _ w_k => XS.ifYes X0.here hx rfl (pc0 := 30) (pc' := 38) rfl (hb hby d4_30) rfl ((if0 _ _).trans (flt (fun q => hc15 ((lw_gt _ _).mp q))).2.2.2) (by decide) (by decide) w_k) ?_
                                show Gd _ _ _ _ (s₁.setTop (mkF m 38 #[.val (.long (-(Int64.ofNat n))), .second, .val (.int (0 : Int32)), .val (.long (-1000000000000000 : Int64)), .second, .val (.int (15 : Int32))] []))
                                refine Gd.go (fun _ w_k => X0.ldc2Long hx hown (mvT hZ (hw _ (List.mem_of_getElem? (i := 202) rfl))) (g := (mkF m 38 #[.val (.long (-(Int64.ofNat n))), .second, .val (.int (0 : Int32)), .val (.long (-1000000000000000 : Int64)), .second, .val (.int (15 : Int32))] [])) rfl (hb hby d4_38) _ w_k) ?_
                                show Gd _ _ _ _ (s₁.setTop (mkF m 41 #[.val (.long (-(Int64.ofNat n))), .second, .val (.int (0 : Int32)), .val (.long (-1000000000000000 : Int64)), .second, .val (.int (15 : Int32))] [(.long (10 : Int64))]))
                                refine Gd.go (fun _ w_k => XS.lloadN X0.here hx rfl (hb hby d4_41) rfl w_k) ?_
                                show Gd _ _ _ _ (s₁.setTop (mkF m 42 #[.val (.long (-(Int64.ofNat n))), .second, .val (.int (0 : Int32)), .val (.long (-1000000000000000 : Int64)), .second, .val (.int (15 : Int32))] [(.long (-1000000000000000 : Int64)), (.long (10 : Int64))]))
                                refine Gd.go (fun _ w_k => XS.lmul X0.here hx rfl (hb hby d4_42) rfl w_k) ?_
                                show Gd _ _ _ _ (s₁.setTop (mkF m 43 #[.val (.long (-(Int64.ofNat n))), .second, .val (.int (0 : Int32)), .val (.long (-1000000000000000 : Int64)), .second, .val (.int (15 : Int32))] [(.long ((10 : Int64) * (-1000000000000000 : Int64)))]))
                                refine Gd.go (fun _ w_k => XS.lstoreN X0.here hx rfl (hb hby d4_43) rfl (l' := #[.val (.long (-(Int64.ofNat n))), .second, .val (.int (0 : Int32)), .val (.long ((10 : Int64) * (-1000000000000000 : Int64))), .second, .val (.int (15 : Int32))]) rfl w_k) ?_
                                show Gd _ _ _ _ (s₁.setTop (mkF m 44 #[.val (.long (-(Int64.ofNat n))), .second, .val (.int (0 : Int32)), .val (.long ((10 : Int64) * (-1000000000000000 : Int64))), .second, .val (.int (15 : Int32))] []))
                                refine Gd.go (fun _ w_k => XS.iinc X0.here hx rfl (hb hby d4_44) rfl (l' := #[.val (.long (-(Int64.ofNat n))), .second, .val (.int (0 : Int32)), .val (.long ((10 : Int64) * (-1000000000000000 : Int64))), .second, .val (.int ((15 : Int32) + (1 : Int32)))]) rfl w_k) ?_
                                show Gd _ _ _ _ (s₁.setTop (mkF m 47 #[.val (.long (-(Int64.ofNat n))), .second, .val (.int (0 : Int32)), .val (.long ((10 : Int64) * (-1000000000000000 : Int64))), .second, .val (.int ((15 : Int32) + (1 : Int32)))] []))
                                refine Gd.go (fun _ w_k => XS.goto X0.here hx rfl (pc0 := 47) (pc' := 20) rfl (hb hby d4_47) (by decide) (by decide) w_k) ?_
                                show Gd _ _ _ _ (s₁.setTop (mkF m 20 #[.val (.long (-(Int64.ofNat n))), .second, .val (.int (0 : Int32)), .val (.long ((10 : Int64) * (-1000000000000000 : Int64))), .second, .val (.int ((15 : Int32) + (1 : Int32)))] []))
                                rw [show ((10 : Int64) * (-1000000000000000 : Int64)) = (-10000000000000000 : Int64) from by decide, show ((15 : Int32) + (1 : Int32)) = (16 : Int32) from by decide]
                                show Gd _ _ _ _ (s₁.setTop (mkF m 20 #[.val (.long (-(Int64.ofNat n))), .second, .val (.int (0 : Int32)), .val (.long (-10000000000000000 : Int64)), .second, .val (.int (16 : Int32))] []))
                                refine Gd.go (fun _ w_k => XS.iload X0.here hx rfl (hb hby d4_20) rfl w_k) ?_
                                show Gd _ _ _ _ (s₁.setTop (mkF m 22 #[.val (.long (-(Int64.ofNat n))), .second, .val (.int (0 : Int32)), .val (.long (-10000000000000000 : Int64)), .second, .val (.int (16 : Int32))] [(.int (16 : Int32))]))
                                refine Gd.go (fun _ w_k => XS.bipush X0.here hx rfl (hb hby d4_22) w_k) ?_
                                show Gd _ _ _ _ (s₁.setTop (mkF m 24 #[.val (.long (-(Int64.ofNat n))), .second, .val (.int (0 : Int32)), .val (.long (-10000000000000000 : Int64)), .second, .val (.int (16 : Int32))] [(.int (19 : Int32)), (.int (16 : Int32))]))
                                refine Gd.go (fun _ w_k => XS.icmpNo X0.here hx rfl (hb hby d4_24) rfl (tlt (by decide)).2.1 w_k) ?_
                                show Gd _ _ _ _ (s₁.setTop (mkF m 27 #[.val (.long (-(Int64.ofNat n))), .second, .val (.int (0 : Int32)), .val (.long (-10000000000000000 : Int64)), .second, .val (.int (16 : Int32))] []))
                                refine Gd.go (fun _ w_k => XS.lloadN X0.here hx rfl (hb hby d4_27) rfl w_k) ?_
                                show Gd _ _ _ _ (s₁.setTop (mkF m 28 #[.val (.long (-(Int64.ofNat n))), .second, .val (.int (0 : Int32)), .val (.long (-10000000000000000 : Int64)), .second, .val (.int (16 : Int32))] [(.long (-(Int64.ofNat n)))]))
                                refine Gd.go (fun _ w_k => XS.lloadN X0.here hx rfl (hb hby d4_28) rfl w_k) ?_
                                show Gd _ _ _ _ (s₁.setTop (mkF m 29 #[.val (.long (-(Int64.ofNat n))), .second, .val (.int (0 : Int32)), .val (.long (-10000000000000000 : Int64)), .second, .val (.int (16 : Int32))] [(.long (-10000000000000000 : Int64)), (.long (-(Int64.ofNat n)))]))
                                refine Gd.go (fun _ w_k => XS.lcmp X0.here hx rfl (hb hby d4_29) rfl w_k) ?_
                                show Gd _ _ _ _ (s₁.setTop (mkF m 30 #[.val (.long (-(Int64.ofNat n))), .second, .val (.int (0 : Int32)), .val (.long (-10000000000000000 : Int64)), .second, .val (.int (16 : Int32))] [(.int (lcmpW (-(Int64.ofNat n)) (-10000000000000000 : Int64)))]))
                                by_cases hc16 : (-10000000000000000 : Int64) < (-(Int64.ofNat n))
                                · refine Gd.go (fun _ w_k => XS.ifNo X0.here hx rfl (hb hby d4_30) rfl ((if0 _ _).trans (tlt ((lw_gt _ _).mpr hc16)).2.2.2) w_k) ?_
                                  show Gd _ _ _ _ (s₁.setTop (mkF m 33 #[.val (.long (-(Int64.ofNat n))), .second, .val (.int (0 : Int32)), .val (.long (-10000000000000000 : Int64)), .second, .val (.int (16 : Int32))] []))
                                  refine Gd.go (fun _ w_k => XS.iload X0.here hx rfl (hb hby d4_33) rfl w_k) ?_
                                  show Gd _ _ _ _ (s₁.setTop (mkF m 35 #[.val (.long (-(Int64.ofNat n))), .second, .val (.int (0 : Int32)), .val (.long (-10000000000000000 : Int64)), .second, .val (.int (16 : Int32))] [(.int (16 : Int32))]))
                                  refine Gd.go (fun _ w_k => XS.iloadN X0.here hx rfl (hb hby d4_35) rfl w_k) ?_
                                  show Gd _ _ _ _ (s₁.setTop (mkF m 36 #[.val (.long (-(Int64.ofNat n))), .second, .val (.int (0 : Int32)), .val (.long (-10000000000000000 : Int64)), .second, .val (.int (16 : Int32))] [(.int (0 : Int32)), (.int (16 : Int32))]))
                                  refine Gd.go (fun _ w_k => XS.iadd X0.here hx rfl (hb hby d4_36) rfl w_k) ?_
                                  show Gd _ _ _ _ (s₁.setTop (mkF m 37 #[.val (.long (-(Int64.ofNat n))), .second, .val (.int (0 : Int32)), .val (.long (-10000000000000000 : Int64)), .second, .val (.int (16 : Int32))] [(.int ((16 : Int32) + (0 : Int32)))]))
                                  refine own_retI X0 hx hret hlk (hb hby d4_37) ?_ (by decide) (by decide)
                                  have u1 := (own_sz hk hn (j := 16) (N := 10000000000000000) (by decide) (by decide) (P := (-10000000000000000 : Int64)) (by decide)).mp hc16
                                  have u2 : ¬ k ≤ 15 := fun q => hc15 ((own_sz hk hn (j := 15) (N := 1000000000000000) (by decide) (by decide) (P := (-1000000000000000 : Int64)) (by decide)).mpr q)
                                  have u3 := hk.1
                                  have u4 := hk.2.1
                                  obtain rfl : k = 16 := by omega
                                  exact ⟨rfl, e0, rfl⟩
                                · refine Gd.go (fun _ w_k => XS.ifYes X0.here hx rfl (pc0 := 30) (pc' := 38) rfl (hb hby d4_30) rfl ((if0 _ _).trans (flt (fun q => hc16 ((lw_gt _ _).mp q))).2.2.2) (by decide) (by decide) w_k) ?_
                                  show Gd _ _ _ _ (s₁.setTop (mkF m 38 #[.val (.long (-(Int64.ofNat n))), .second, .val (.int (0 : Int32)), .val (.long (-10000000000000000 : Int64)), .second, .val (.int (16 : Int32))] []))
                                  refine Gd.go (fun _ w_k => X0.ldc2Long hx hown (mvT hZ (hw _ (List.mem_of_getElem? (i := 202) rfl))) (g := (mkF m 38 #[.val (.long (-(Int64.ofNat n))), .second, .val (.int (0 : Int32)), .val (.long (-10000000000000000 : Int64)), .second, .val (.int (16 : Int32))] [])) rfl (hb hby d4_38) _ w_k) ?_
                                  show Gd _ _ _ _ (s₁.setTop (mkF m 41 #[.val (.long (-(Int64.ofNat n))), .second, .val (.int (0 : Int32)), .val (.long (-10000000000000000 : Int64)), .second, .val (.int (16 : Int32))] [(.long (10 : Int64))]))
                                  refine Gd.go (fun _ w_k => XS.lloadN X0.here hx rfl (hb hby d4_41) rfl w_k) ?_
                                  show Gd _ _ _ _ (s₁.setTop (mkF m 42 #[.val (.long (-(Int64.ofNat n))), .second, .val (.int (0 : Int32)), .val (.long (-10000000000000000 : Int64)), .second, .val (.int (16 : Int32))] [(.long (-10000000000000000 : Int64)), (.long (10 : Int64))]))
                                  refine Gd.go (fun _ w_k => XS.lmul X0.here hx rfl (hb hby d4_42) rfl w_k) ?_
                                  show Gd _ _ _ _ (s₁.setTop (mkF m 43 #[.val (.long (-(Int64.ofNat n))), .second, .val (.int (0 : Int32)), .val (.long (-10000000000000000 : Int64)), .second, .val (.int (16 : Int32))] [(.long ((10 : Int64) * (-10000000000000000 : Int64)))]))
                                  refine Gd.go (fun _ w_k => XS.lstoreN X0.here hx rfl (hb hby d4_43) rfl (l' := #[.val (.long (-(Int64.ofNat n))), .second, .val (.int (0 : Int32)), .val (.long ((10 : Int64) * (-10000000000000000 : Int64))), .second, .val (.int (16 : Int32))]) rfl w_k) ?_
                                  show Gd _ _ _ _ (s₁.setTop (mkF m 44 #[.val (.long (-(Int64.ofNat n))), .second, .val (.int (0 : Int32)), .val (.long ((10 : Int64) * (-10000000000000000 : Int64))), .second, .val (.int (16 : Int32))] []))
                                  refine Gd.go (fun _ w_k => XS.iinc X0.here hx rfl (hb hby d4_44) rfl (l' := #[.val (.long (-(Int64.ofNat n))), .second, .val (.int (0 : Int32)), .val (.long ((10 : Int64) * (-10000000000000000 : Int64))), .second, .val (.int ((16 : Int32) + (1 : Int32)))]) rfl w_k) ?_
                                  show Gd _ _ _ _ (s₁.setTop (mkF m 47 #[.val (.long (-(Int64.ofNat n))), .second, .val (.int (0 : Int32)), .val (.long ((10 : Int64) * (-10000000000000000 : Int64))), .second, .val (.int ((16 : Int32) + (1 : Int32)))] []))
                                  refine Gd.go (fun _ w_k => XS.goto X0.here hx rfl (pc0 := 47) (pc' := 20) rfl (hb hby d4_47) (by decide) (by decide) w_k) ?_
                                  show Gd _ _ _ _ (s₁.setTop (mkF m 20 #[.val (.long (-(Int64.ofNat n))), .second, .val (.int (0 : Int32)), .val (.long ((10 : Int64) * (-10000000000000000 : Int64))), .second, .val (.int ((16 : Int32) + (1 : Int32)))] []))
                                  rw [show ((10 : Int64) * (-10000000000000000 : Int64)) = (-100000000000000000 : Int64) from by decide, show ((16 : Int32) + (1 : Int32)) = (17 : Int32) from by decide]
                                  show Gd _ _ _ _ (s₁.setTop (mkF m 20 #[.val (.long (-(Int64.ofNat n))), .second, .val (.int (0 : Int32)), .val (.long (-100000000000000000 : Int64)), .second, .val (.int (17 : Int32))] []))
                                  refine Gd.go (fun _ w_k => XS.iload X0.here hx rfl (hb hby d4_20) rfl w_k) ?_
                                  show Gd _ _ _ _ (s₁.setTop (mkF m 22 #[.val (.long (-(Int64.ofNat n))), .second, .val (.int (0 : Int32)), .val (.long (-100000000000000000 : Int64)), .second, .val (.int (17 : Int32))] [(.int (17 : Int32))]))
                                  refine Gd.go (fun _ w_k => XS.bipush X0.here hx rfl (hb hby d4_22) w_k) ?_
                                  show Gd _ _ _ _ (s₁.setTop (mkF m 24 #[.val (.long (-(Int64.ofNat n))), .second, .val (.int (0 : Int32)), .val (.long (-100000000000000000 : Int64)), .second, .val (.int (17 : Int32))] [(.int (19 : Int32)), (.int (17 : Int32))]))
                                  refine Gd.go (fun _ w_k => XS.icmpNo X0.here hx rfl (hb hby d4_24) rfl (tlt (by decide)).2.1 w_k) ?_
                                  show Gd _ _ _ _ (s₁.setTop (mkF m 27 #[.val (.long (-(Int64.ofNat n))), .second, .val (.int (0 : Int32)), .val (.long (-100000000000000000 : Int64)), .second, .val (.int (17 : Int32))] []))
                                  refine Gd.go (fun _ w_k => XS.lloadN X0.here hx rfl (hb hby d4_27) rfl w_k) ?_
                                  show Gd _ _ _ _ (s₁.setTop (mkF m 28 #[.val (.long (-(Int64.ofNat n))), .second, .val (.int (0 : Int32)), .val (.long (-100000000000000000 : Int64)), .second, .val (.int (17 : Int32))] [(.long (-(Int64.ofNat n)))]))
                                  refine Gd.go (fun _ w_k => XS.lloadN X0.here hx rfl (hb hby d4_28) rfl w_k) ?_
                                  show Gd _ _ _ _ (s₁.setTop (mkF m 29 #[.val (.long (-(Int64.ofNat n))), .second, .val (.int (0 : Int32)), .val (.long (-100000000000000000 : Int64)), .second, .val (.int (17 : Int32))] [(.long (-100000000000000000 : Int64)), (.long (-(Int64.ofNat n)))]))
                                  refine Gd.go (fun _ w_k => XS.lcmp X0.here hx rfl (hb hby d4_29) rfl w_k) ?_
                                  show Gd _ _ _ _ (s₁.setTop (mkF m 30 #[.val (.long (-(Int64.ofNat n))), .second, .val (.int (0 : Int32)), .val (.long (-100000000000000000 : Int64)), .second, .val (.int (17 : Int32))] [(.int (lcmpW (-(Int64.ofNat n)) (-100000000000000000 : Int64)))]))
                                  by_cases hc17 : (-100000000000000000 : Int64) < (-(Int64.ofNat n))
                                  · refine Gd.go (fun _ w_k => XS.ifNo X0.here hx rfl (hb hby d4_30) rfl ((if0 _ _).trans (tlt ((lw_gt _ _).mpr hc17)).2.2.2) w_k) ?_
                                    show Gd _ _ _ _ (s₁.setTop (mkF m 33 #[.val (.long (-(Int64.ofNat n))), .second, .val (.int (0 : Int32)), .val (.long (-100000000000000000 : Int64)), .second, .val (.int (17 : Int32))] []))
                                    refine Gd.go (fun _ w_k => XS.iload X0.here hx rfl (hb hby d4_33) rfl w_k) ?_
                                    show Gd _ _ _ _ (s₁.setTop (mkF m 35 #[.val (.long (-(Int64.ofNat n))), .second, .val (.int (0 : Int32)), .val (.long (-100000000000000000 : Int64)), .second, .val (.int (17 : Int32))] [(.int (17 : Int32))]))
                                    refine Gd.go (fun _ w_k => XS.iloadN X0.here hx rfl (hb hby d4_35) rfl w_k) ?_
                                    show Gd _ _ _ _ (s₁.setTop (mkF m 36 #[.val (.long (-(Int64.ofNat n))), .second, .val (.int (0 : Int32)), .val (.long (-100000000000000000 : Int64)), .second, .val (.int (17 : Int32))] [(.int (0 : Int32)), (.int (17 : Int32))]))
                                    refine Gd.go (fun _ w_k => XS.iadd X0.here hx rfl (hb hby d4_36) rfl w_k) ?_
                                    show Gd _ _ _ _ (s₁.setTop (mkF m 37 #[.val (.long (-(Int64.ofNat n))), .second, .val (.int (0 : Int32)), .val (.long (-100000000000000000 : Int64)), .second, .val (.int (17 : Int32))] [(.int ((17 : Int32) + (0 : Int32)))]))
                                    refine own_retI X0 hx hret hlk (hb hby d4_37) ?_ (by decide) (by decide)
                                    have u1 := (own_sz hk hn (j := 17) (N := 100000000000000000) (by decide) (by decide) (P := (-100000000000000000 : Int64)) (by decide)).mp hc17
                                    have u2 : ¬ k ≤ 16 := fun q => hc16 ((own_sz hk hn (j := 16) (N := 10000000000000000) (by decide) (by decide) (P := (-10000000000000000 : Int64)) (by decide)).mpr q)
                                    have u3 := hk.1
                                    have u4 := hk.2.1
                                    obtain rfl : k = 17 := by omega
                                    exact ⟨rfl, e0, rfl⟩
                                  · refine Gd.go (fun _ w_k => XS.ifYes X0.here hx rfl (pc0 := 30) (pc' := 38) rfl (hb hby d4_30) rfl ((if0 _ _).trans (flt (fun q => hc17 ((lw_gt _ _).mp q))).2.2.2) (by decide) (by decide) w_k) ?_
                                    show Gd _ _ _ _ (s₁.setTop (mkF m 38 #[.val (.long (-(Int64.ofNat n))), .second, .val (.int (0 : Int32)), .val (.long (-100000000000000000 : Int64)), .second, .val (.int (17 : Int32))] []))
                                    refine Gd.go (fun _ w_k => X0.ldc2Long hx hown (mvT hZ (hw _ (List.mem_of_getElem? (i := 202) rfl))) (g := (mkF m 38 #[.val (.long (-(Int64.ofNat n))), .second, .val (.int (0 : Int32)), .val (.long (-100000000000000000 : Int64)), .second, .val (.int (17 : Int32))] [])) rfl (hb hby d4_38) _ w_k) ?_
                                    show Gd _ _ _ _ (s₁.setTop (mkF m 41 #[.val (.long (-(Int64.ofNat n))), .second, .val (.int (0 : Int32)), .val (.long (-100000000000000000 : Int64)), .second, .val (.int (17 : Int32))] [(.long (10 : Int64))]))
                                    refine Gd.go (fun _ w_k => XS.lloadN X0.here hx rfl (hb hby d4_41) rfl w_k) ?_
                                    show Gd _ _ _ _ (s₁.setTop (mkF m 42 #[.val (.long (-(Int64.ofNat n))), .second, .val (.int (0 : Int32)), .val (.long (-100000000000000000 : Int64)), .second, .val (.int (17 : Int32))] [(.long (-100000000000000000 : Int64)), (.long (10 : Int64))]))
                                    refine Gd.go (fun _ w_k => XS.lmul X0.here hx rfl (hb hby d4_42) rfl w_k) ?_
                                    show Gd _ _ _ _ (s₁.setTop (mkF m 43 #[.val (.long (-(Int64.ofNat n))), .second, .val (.int (0 : Int32)), .val (.long (-100000000000000000 : Int64)), .second, .val (.int (17 : Int32))] [(.long ((10 : Int64) * (-100000000000000000 : Int64)))]))
                                    refine Gd.go (fun _ w_k => XS.lstoreN X0.here hx rfl (hb hby d4_43) rfl (l' := #[.val (.long (-(Int64.ofNat n))), .second, .val (.int (0 : Int32)), .val (.long ((10 : Int64) * (-100000000000000000 : Int64))), .second, .val (.int (17 : Int32))]) rfl w_k) ?_
                                    show Gd _ _ _ _ (s₁.setTop (mkF m 44 #[.val (.long (-(Int64.ofNat n))), .second, .val (.int (0 : Int32)), .val (.long ((10 : Int64) * (-100000000000000000 : Int64))), .second, .val (.int (17 : Int32))] []))
                                    refine Gd.go (fun _ w_k => XS.iinc X0.here hx rfl (hb hby d4_44) rfl (l' := #[.val (.long (-(Int64.ofNat n))), .second, .val (.int (0 : Int32)), .val (.long ((10 : Int64) * (-100000000000000000 : Int64))), .second, .val (.int ((17 : Int32) + (1 : Int32)))]) rfl w_k) ?_
                                    show Gd _ _ _ _ (s₁.setTop (mkF m 47 #[.val (.long (-(Int64.ofNat n))), .second, .val (.int (0 : Int32)), .val (.long ((10 : Int64) * (-100000000000000000 : Int64))), .second, .val (.int ((17 : Int32) + (1 : Int32)))] []))
                                    refine Gd.go (fun _ w_k => XS.goto X0.here hx rfl (pc0 := 47) (pc' := 20) rfl (hb hby d4_47) (by decide) (by decide) w_k) ?_
                                    show Gd _ _ _ _ (s₁.setTop (mkF m 20 #[.val (.long (-(Int64.ofNat n))), .second, .val (.int (0 : Int32)), .val (.long ((10 : Int64) * (-100000000000000000 : Int64))), .second, .val (.int ((17 : Int32) + (1 : Int32)))] []))
                                    rw [show ((10 : Int64) * (-100000000000000000 : Int64)) = (-1000000000000000000 : Int64) from by decide, show ((17 : Int32) + (1 : Int32)) = (18 : Int32) from by decide]
                                    show Gd _ _ _ _ (s₁.setTop (mkF m 20 #[.val (.long (-(Int64.ofNat n))), .second, .val (.int (0 : Int32)), .val (.long (-1000000000000000000 : Int64)), .second, .val (.int (18 : Int32))] []))
                                    refine Gd.go (fun _ w_k => XS.iload X0.here hx rfl (hb hby d4_20) rfl w_k) ?_
                                    show Gd _ _ _ _ (s₁.setTop (mkF m 22 #[.val (.long (-(Int64.ofNat n))), .second, .val (.int (0 : Int32)), .val (.long (-1000000000000000000 : Int64)), .second, .val (.int (18 : Int32))] [(.int (18 : Int32))]))
                                    refine Gd.go (fun _ w_k => XS.bipush X0.here hx rfl (hb hby d4_22) w_k) ?_
                                    show Gd _ _ _ _ (s₁.setTop (mkF m 24 #[.val (.long (-(Int64.ofNat n))), .second, .val (.int (0 : Int32)), .val (.long (-1000000000000000000 : Int64)), .second, .val (.int (18 : Int32))] [(.int (19 : Int32)), (.int (18 : Int32))]))
                                    refine Gd.go (fun _ w_k => XS.icmpNo X0.here hx rfl (hb hby d4_24) rfl (tlt (by decide)).2.1 w_k) ?_
                                    show Gd _ _ _ _ (s₁.setTop (mkF m 27 #[.val (.long (-(Int64.ofNat n))), .second, .val (.int (0 : Int32)), .val (.long (-1000000000000000000 : Int64)), .second, .val (.int (18 : Int32))] []))
                                    refine Gd.go (fun _ w_k => XS.lloadN X0.here hx rfl (hb hby d4_27) rfl w_k) ?_
                                    show Gd _ _ _ _ (s₁.setTop (mkF m 28 #[.val (.long (-(Int64.ofNat n))), .second, .val (.int (0 : Int32)), .val (.long (-1000000000000000000 : Int64)), .second, .val (.int (18 : Int32))] [(.long (-(Int64.ofNat n)))]))
                                    refine Gd.go (fun _ w_k => XS.lloadN X0.here hx rfl (hb hby d4_28) rfl w_k) ?_
                                    show Gd _ _ _ _ (s₁.setTop (mkF m 29 #[.val (.long (-(Int64.ofNat n))), .second, .val (.int (0 : Int32)), .val (.long (-1000000000000000000 : Int64)), .second, .val (.int (18 : Int32))] [(.long (-1000000000000000000 : Int64)), (.long (-(Int64.ofNat n)))]))
                                    refine Gd.go (fun _ w_k => XS.lcmp X0.here hx rfl (hb hby d4_29) rfl w_k) ?_
                                    show Gd _ _ _ _ (s₁.setTop (mkF m 30 #[.val (.long (-(Int64.ofNat n))), .second, .val (.int (0 : Int32)), .val (.long (-1000000000000000000 : Int64)), .second, .val (.int (18 : Int32))] [(.int (lcmpW (-(Int64.ofNat n)) (-1000000000000000000 : Int64)))]))
                                    by_cases hc18 : (-1000000000000000000 : Int64) < (-(Int64.ofNat n))
                                    · refine Gd.go (fun _ w_k => XS.ifNo X0.here hx rfl (hb hby d4_30) rfl ((if0 _ _).trans (tlt ((lw_gt _ _).mpr hc18)).2.2.2) w_k) ?_
                                      show Gd _ _ _ _ (s₁.setTop (mkF m 33 #[.val (.long (-(Int64.ofNat n))), .second, .val (.int (0 : Int32)), .val (.long (-1000000000000000000 : Int64)), .second, .val (.int (18 : Int32))] []))
                                      refine Gd.go (fun _ w_k => XS.iload X0.here hx rfl (hb hby d4_33) rfl w_k) ?_
                                      show Gd _ _ _ _ (s₁.setTop (mkF m 35 #[.val (.long (-(Int64.ofNat n))), .second, .val (.int (0 : Int32)), .val (.long (-1000000000000000000 : Int64)), .second, .val (.int (18 : Int32))] [(.int (18 : Int32))]))
                                      refine Gd.go (fun _ w_k => XS.iloadN X0.here hx rfl (hb hby d4_35) rfl w_k) ?_
                                      show Gd _ _ _ _ (s₁.setTop (mkF m 36 #[.val (.long (-(Int64.ofNat n))), .second, .val (.int (0 : Int32)), .val (.long (-1000000000000000000 : Int64)), .second, .val (.int (18 : Int32))] [(.int (0 : Int32)), (.int (18 : Int32))]))
                                      refine Gd.go (fun _ w_k => XS.iadd X0.here hx rfl (hb hby d4_36) rfl w_k) ?_
                                      show Gd _ _ _ _ (s₁.setTop (mkF m 37 #[.val (.long (-(Int64.ofNat n))), .second, .val (.int (0 : Int32)), .val (.long (-1000000000000000000 : Int64)), .second, .val (.int (18 : Int32))] [(.int ((18 : Int32) + (0 : Int32)))]))
                                      refine own_retI X0 hx hret hlk (hb hby d4_37) ?_ (by decide) (by decide)
                                      have u1 := (own_sz hk hn (j := 18) (N := 1000000000000000000) (by decide) (by decide) (P := (-1000000000000000000 : Int64)) (by decide)).mp hc18
                                      have u2 : ¬ k ≤ 17 := fun q => hc17 ((own_sz hk hn (j := 17) (N := 100000000000000000) (by decide) (by decide) (P := (-100000000000000000 : Int64)) (by decide)).mpr q)
                                      have u3 := hk.1
                                      have u4 := hk.2.1
                                      obtain rfl : k = 18 := by omega
                                      exact ⟨rfl, e0, rfl⟩
                                    · refine Gd.go (fun _ w_k => XS.ifYes X0.here hx rfl (pc0 := 30) (pc' := 38) rfl (hb hby d4_30) rfl ((if0 _ _).trans (flt (fun q => hc18 ((lw_gt _ _).mp q))).2.2.2) (by decide) (by decide) w_k) ?_
                                      show Gd _ _ _ _ (s₁.setTop (mkF m 38 #[.val (.long (-(Int64.ofNat n))), .second, .val (.int (0 : Int32)), .val (.long (-1000000000000000000 : Int64)), .second, .val (.int (18 : Int32))] []))
                                      refine Gd.go (fun _ w_k => X0.ldc2Long hx hown (mvT hZ (hw _ (List.mem_of_getElem? (i := 202) rfl))) (g := (mkF m 38 #[.val (.long (-(Int64.ofNat n))), .second, .val (.int (0 : Int32)), .val (.long (-1000000000000000000 : Int64)), .second, .val (.int (18 : Int32))] [])) rfl (hb hby d4_38) _ w_k) ?_
                                      show Gd _ _ _ _ (s₁.setTop (mkF m 41 #[.val (.long (-(Int64.ofNat n))), .second, .val (.int (0 : Int32)), .val (.long (-1000000000000000000 : Int64)), .second, .val (.int (18 : Int32))] [(.long (10 : Int64))]))
                                      refine Gd.go (fun _ w_k => XS.lloadN X0.here hx rfl (hb hby d4_41) rfl w_k) ?_
                                      show Gd _ _ _ _ (s₁.setTop (mkF m 42 #[.val (.long (-(Int64.ofNat n))), .second, .val (.int (0 : Int32)), .val (.long (-1000000000000000000 : Int64)), .second, .val (.int (18 : Int32))] [(.long (-1000000000000000000 : Int64)), (.long (10 : Int64))]))
                                      refine Gd.go (fun _ w_k => XS.lmul X0.here hx rfl (hb hby d4_42) rfl w_k) ?_
                                      show Gd _ _ _ _ (s₁.setTop (mkF m 43 #[.val (.long (-(Int64.ofNat n))), .second, .val (.int (0 : Int32)), .val (.long (-1000000000000000000 : Int64)), .second, .val (.int (18 : Int32))] [(.long ((10 : Int64) * (-1000000000000000000 : Int64)))]))
                                      refine Gd.go (fun _ w_k => XS.lstoreN X0.here hx rfl (hb hby d4_43) rfl (l' := #[.val (.long (-(Int64.ofNat n))), .second, .val (.int (0 : Int32)), .val (.long ((10 : Int64) * (-1000000000000000000 : Int64))), .second, .val (.int (18 : Int32))]) rfl w_k) ?_
                                      show Gd _ _ _ _ (s₁.setTop (mkF m 44 #[.val (.long (-(Int64.ofNat n))), .second, .val (.int (0 : Int32)), .val (.long ((10 : Int64) * (-1000000000000000000 : Int64))), .second, .val (.int (18 : Int32))] []))
                                      refine Gd.go (fun _ w_k => XS.iinc X0.here hx rfl (hb hby d4_44) rfl (l' := #[.val (.long (-(Int64.ofNat n))), .second, .val (.int (0 : Int32)), .val (.long ((10 : Int64) * (-1000000000000000000 : Int64))), .second, .val (.int ((18 : Int32) + (1 : Int32)))]) rfl w_k) ?_
                                      show Gd _ _ _ _ (s₁.setTop (mkF m 47 #[.val (.long (-(Int64.ofNat n))), .second, .val (.int (0 : Int32)), .val (.long ((10 : Int64) * (-1000000000000000000 : Int64))), .second, .val (.int ((18 : Int32) + (1 : Int32)))] []))
                                      refine Gd.go (fun _ w_k => XS.goto X0.here hx rfl (pc0 := 47) (pc' := 20) rfl (hb hby d4_47) (by decide) (by decide) w_k) ?_
                                      show Gd _ _ _ _ (s₁.setTop (mkF m 20 #[.val (.long (-(Int64.ofNat n))), .second, .val (.int (0 : Int32)), .val (.long ((10 : Int64) * (-1000000000000000000 : Int64))), .second, .val (.int ((18 : Int32) + (1 : Int32)))] []))
                                      rw [show ((10 : Int64) * (-1000000000000000000 : Int64)) = (8446744073709551616 : Int64) from by decide, show ((18 : Int32) + (1 : Int32)) = (19 : Int32) from by decide]
                                      show Gd _ _ _ _ (s₁.setTop (mkF m 20 #[.val (.long (-(Int64.ofNat n))), .second, .val (.int (0 : Int32)), .val (.long (8446744073709551616 : Int64)), .second, .val (.int (19 : Int32))] []))
                                      refine Gd.go (fun _ w_k => XS.iload X0.here hx rfl (hb hby d4_20) rfl w_k) ?_
                                      show Gd _ _ _ _ (s₁.setTop (mkF m 22 #[.val (.long (-(Int64.ofNat n))), .second, .val (.int (0 : Int32)), .val (.long (8446744073709551616 : Int64)), .second, .val (.int (19 : Int32))] [(.int (19 : Int32))]))
                                      refine Gd.go (fun _ w_k => XS.bipush X0.here hx rfl (hb hby d4_22) w_k) ?_
                                      show Gd _ _ _ _ (s₁.setTop (mkF m 24 #[.val (.long (-(Int64.ofNat n))), .second, .val (.int (0 : Int32)), .val (.long (8446744073709551616 : Int64)), .second, .val (.int (19 : Int32))] [(.int (19 : Int32)), (.int (19 : Int32))]))
                                      refine Gd.go (fun _ w_k => XS.icmpYes X0.here hx rfl (pc0 := 24) (pc' := 50) rfl (hb hby d4_24) rfl (flt (by decide)).2.1 (by decide) (by decide) w_k) ?_
                                      show Gd _ _ _ _ (s₁.setTop (mkF m 50 #[.val (.long (-(Int64.ofNat n))), .second, .val (.int (0 : Int32)), .val (.long (8446744073709551616 : Int64)), .second, .val (.int (19 : Int32))] []))
                                      refine Gd.go (fun _ w_k => XS.bipush X0.here hx rfl (hb hby d4_50) w_k) ?_
                                      show Gd _ _ _ _ (s₁.setTop (mkF m 52 #[.val (.long (-(Int64.ofNat n))), .second, .val (.int (0 : Int32)), .val (.long (8446744073709551616 : Int64)), .second, .val (.int (19 : Int32))] [(.int (19 : Int32))]))
                                      refine Gd.go (fun _ w_k => XS.iloadN X0.here hx rfl (hb hby d4_52) rfl w_k) ?_
                                      show Gd _ _ _ _ (s₁.setTop (mkF m 53 #[.val (.long (-(Int64.ofNat n))), .second, .val (.int (0 : Int32)), .val (.long (8446744073709551616 : Int64)), .second, .val (.int (19 : Int32))] [(.int (0 : Int32)), (.int (19 : Int32))]))
                                      refine Gd.go (fun _ w_k => XS.iadd X0.here hx rfl (hb hby d4_53) rfl w_k) ?_
                                      show Gd _ _ _ _ (s₁.setTop (mkF m 54 #[.val (.long (-(Int64.ofNat n))), .second, .val (.int (0 : Int32)), .val (.long (8446744073709551616 : Int64)), .second, .val (.int (19 : Int32))] [(.int ((19 : Int32) + (0 : Int32)))]))
                                      refine own_retI X0 hx hret hlk (hb hby d4_54) ?_ (by decide) (by decide)
                                      have u2 : ¬ k ≤ 18 := fun q => hc18 ((own_sz hk hn (j := 18) (N := 1000000000000000000) (by decide) (by decide) (P := (-1000000000000000000 : Int64)) (by decide)).mpr q)
                                      have u3 := hk.1
                                      have u4 := hk.2.1
                                      obtain rfl : k = 19 := by omega
                                      exact ⟨rfl, e0, rfl⟩
theorem own_pn31 : plainFor (⟨"java/lang/Long", "getChars", "(JI[B)I"⟩ : MethodName) = true := by first | exact plainFor_of_name (by first | (simp [plainName, overriddenIn, x]; done) | decide +kernel) | decide +kernel
theorem ef_5 (m : MethodId) (q0 : Int64) (q1 : Int32) (q2 : Addr) : entryFrame m #[(.long q0), (.int q1), (.ref q2)] 11 = mkF m 0 #[.val (.long q0), .second, .val (.int q1), .val (.ref q2), .unset, .unset, .unset, .unset, .unset, .unset, .unset] [] := by first | (simp [entryFrame, mkF, argsToLocals, Value.category, maxLocals]; done) | rfl
theorem d5_86 : decode jdk_35_method_14_code 86 = .ok (.iload 10, 2) := by decide +kernel
theorem d5_88 : decode jdk_35_method_14_code 88 = .ok (.bipush (-100), 2) := by decide +kernel
theorem d5_90 : decode jdk_35_method_14_code 90 = .ok (.if_icmp .gt 53, 3) := by decide +kernel
theorem d5_143 : decode jdk_35_method_14_code 143 = .ok (.aload_n 3, 1) := by decide +kernel
theorem d5_144 : decode jdk_35_method_14_code 144 = .ok (.iinc 7 (-1), 3) := by decide +kernel
theorem d5_147 : decode jdk_35_method_14_code 147 = .ok (.iload 7, 2) := by decide +kernel
theorem d5_149 : decode jdk_35_method_14_code 149 = .ok (.getstatic 133, 3) := by decide +kernel
theorem d5_152 : decode jdk_35_method_14_code 152 = .ok (.iload 10, 2) := by decide +kernel
theorem d5_154 : decode jdk_35_method_14_code 154 = .ok (.ineg, 1) := by decide +kernel
theorem d5_155 : decode jdk_35_method_14_code 155 = .ok (.baload, 1) := by decide +kernel
theorem d5_156 : decode jdk_35_method_14_code 156 = .ok (.bastore, 1) := by decide +kernel
theorem d5_157 : decode jdk_35_method_14_code 157 = .ok (.iload 10, 2) := by decide +kernel
theorem d5_159 : decode jdk_35_method_14_code 159 = .ok (.bipush (-9), 2) := by decide +kernel
theorem d5_161 : decode jdk_35_method_14_code 161 = .ok (.if_icmp .ge 17, 3) := by decide +kernel
theorem d5_164 : decode jdk_35_method_14_code 164 = .ok (.aload_n 3, 1) := by decide +kernel
theorem d5_165 : decode jdk_35_method_14_code 165 = .ok (.iinc 7 (-1), 3) := by decide +kernel
theorem d5_168 : decode jdk_35_method_14_code 168 = .ok (.iload 7, 2) := by decide +kernel
theorem d5_170 : decode jdk_35_method_14_code 170 = .ok (.getstatic 137, 3) := by decide +kernel
theorem d5_173 : decode jdk_35_method_14_code 173 = .ok (.iload 10, 2) := by decide +kernel
theorem d5_175 : decode jdk_35_method_14_code 175 = .ok (.ineg, 1) := by decide +kernel
theorem d5_176 : decode jdk_35_method_14_code 176 = .ok (.baload, 1) := by decide +kernel
theorem d5_177 : decode jdk_35_method_14_code 177 = .ok (.bastore, 1) := by decide +kernel
theorem d5_178 : decode jdk_35_method_14_code 178 = .ok (.iload 8, 2) := by decide +kernel
theorem d5_180 : decode jdk_35_method_14_code 180 = .ok (.ifCond .eq 12, 3) := by decide +kernel
theorem d5_192 : decode jdk_35_method_14_code 192 = .ok (.iload 7, 2) := by decide +kernel
theorem d5_194 : decode jdk_35_method_14_code 194 = .ok (.ireturn, 1) := by decide +kernel
theorem d5_93 : decode jdk_35_method_14_code 93 = .ok (.iload 10, 2) := by decide +kernel
theorem d5_95 : decode jdk_35_method_14_code 95 = .ok (.bipush 100, 2) := by decide +kernel
theorem d5_97 : decode jdk_35_method_14_code 97 = .ok (.idiv, 1) := by decide +kernel
theorem d5_98 : decode jdk_35_method_14_code 98 = .ok (.istore 9, 2) := by decide +kernel
theorem d5_100 : decode jdk_35_method_14_code 100 = .ok (.iload 9, 2) := by decide +kernel
theorem d5_102 : decode jdk_35_method_14_code 102 = .ok (.bipush 100, 2) := by decide +kernel
theorem d5_104 : decode jdk_35_method_14_code 104 = .ok (.imul, 1) := by decide +kernel
theorem d5_105 : decode jdk_35_method_14_code 105 = .ok (.iload 10, 2) := by decide +kernel
theorem d5_107 : decode jdk_35_method_14_code 107 = .ok (.isub, 1) := by decide +kernel
theorem d5_108 : decode jdk_35_method_14_code 108 = .ok (.istore 6, 2) := by decide +kernel
theorem d5_110 : decode jdk_35_method_14_code 110 = .ok (.iload 9, 2) := by decide +kernel
theorem d5_112 : decode jdk_35_method_14_code 112 = .ok (.istore 10, 2) := by decide +kernel
theorem d5_114 : decode jdk_35_method_14_code 114 = .ok (.aload_n 3, 1) := by decide +kernel
theorem d5_115 : decode jdk_35_method_14_code 115 = .ok (.iinc 7 (-1), 3) := by decide +kernel
theorem d5_118 : decode jdk_35_method_14_code 118 = .ok (.iload 7, 2) := by decide +kernel
theorem d5_120 : decode jdk_35_method_14_code 120 = .ok (.getstatic 133, 3) := by decide +kernel
theorem d5_123 : decode jdk_35_method_14_code 123 = .ok (.iload 6, 2) := by decide +kernel
theorem d5_125 : decode jdk_35_method_14_code 125 = .ok (.baload, 1) := by decide +kernel
theorem d5_126 : decode jdk_35_method_14_code 126 = .ok (.bastore, 1) := by decide +kernel
theorem d5_127 : decode jdk_35_method_14_code 127 = .ok (.aload_n 3, 1) := by decide +kernel
theorem d5_128 : decode jdk_35_method_14_code 128 = .ok (.iinc 7 (-1), 3) := by decide +kernel
theorem d5_131 : decode jdk_35_method_14_code 131 = .ok (.iload 7, 2) := by decide +kernel
theorem d5_133 : decode jdk_35_method_14_code 133 = .ok (.getstatic 137, 3) := by decide +kernel
theorem d5_136 : decode jdk_35_method_14_code 136 = .ok (.iload 6, 2) := by decide +kernel
theorem d5_138 : decode jdk_35_method_14_code 138 = .ok (.baload, 1) := by decide +kernel
theorem d5_139 : decode jdk_35_method_14_code 139 = .ok (.bastore, 1) := by decide +kernel
theorem d5_140 : decode jdk_35_method_14_code 140 = .ok (.goto (-54), 3) := by decide +kernel
theorem d5_24 : decode jdk_35_method_14_code 24 = .ok (.lload_n 0, 1) := by decide +kernel
theorem d5_25 : decode jdk_35_method_14_code 25 = .ok (.ldc2_w 129, 3) := by decide +kernel
theorem d5_28 : decode jdk_35_method_14_code 28 = .ok (.lcmp, 1) := by decide +kernel
theorem d5_29 : decode jdk_35_method_14_code 29 = .ok (.ifCond .gt 53, 3) := by decide +kernel
theorem d5_82 : decode jdk_35_method_14_code 82 = .ok (.lload_n 0, 1) := by decide +kernel
theorem d5_83 : decode jdk_35_method_14_code 83 = .ok (.l2i, 1) := by decide +kernel
theorem d5_84 : decode jdk_35_method_14_code 84 = .ok (.istore 10, 2) := by decide +kernel
theorem d5_32 : decode jdk_35_method_14_code 32 = .ok (.lload_n 0, 1) := by decide +kernel
theorem d5_33 : decode jdk_35_method_14_code 33 = .ok (.ldc2_w 131, 3) := by decide +kernel
theorem d5_36 : decode jdk_35_method_14_code 36 = .ok (.ldiv, 1) := by decide +kernel
theorem d5_37 : decode jdk_35_method_14_code 37 = .ok (.lstore 4, 2) := by decide +kernel
theorem d5_39 : decode jdk_35_method_14_code 39 = .ok (.lload 4, 2) := by decide +kernel
theorem d5_41 : decode jdk_35_method_14_code 41 = .ok (.ldc2_w 131, 3) := by decide +kernel
theorem d5_44 : decode jdk_35_method_14_code 44 = .ok (.lmul, 1) := by decide +kernel
theorem d5_45 : decode jdk_35_method_14_code 45 = .ok (.lload_n 0, 1) := by decide +kernel
theorem d5_46 : decode jdk_35_method_14_code 46 = .ok (.lsub, 1) := by decide +kernel
theorem d5_47 : decode jdk_35_method_14_code 47 = .ok (.l2i, 1) := by decide +kernel
theorem d5_48 : decode jdk_35_method_14_code 48 = .ok (.istore 6, 2) := by decide +kernel
theorem d5_50 : decode jdk_35_method_14_code 50 = .ok (.lload 4, 2) := by decide +kernel
theorem d5_52 : decode jdk_35_method_14_code 52 = .ok (.lstore_n 0, 1) := by decide +kernel
theorem d5_53 : decode jdk_35_method_14_code 53 = .ok (.aload_n 3, 1) := by decide +kernel
theorem d5_54 : decode jdk_35_method_14_code 54 = .ok (.iinc 7 (-1), 3) := by decide +kernel
theorem d5_57 : decode jdk_35_method_14_code 57 = .ok (.iload 7, 2) := by decide +kernel
theorem d5_59 : decode jdk_35_method_14_code 59 = .ok (.getstatic 133, 3) := by decide +kernel
theorem d5_62 : decode jdk_35_method_14_code 62 = .ok (.iload 6, 2) := by decide +kernel
theorem d5_64 : decode jdk_35_method_14_code 64 = .ok (.baload, 1) := by decide +kernel
theorem d5_65 : decode jdk_35_method_14_code 65 = .ok (.bastore, 1) := by decide +kernel
theorem d5_66 : decode jdk_35_method_14_code 66 = .ok (.aload_n 3, 1) := by decide +kernel
theorem d5_67 : decode jdk_35_method_14_code 67 = .ok (.iinc 7 (-1), 3) := by decide +kernel
theorem d5_70 : decode jdk_35_method_14_code 70 = .ok (.iload 7, 2) := by decide +kernel
theorem d5_72 : decode jdk_35_method_14_code 72 = .ok (.getstatic 137, 3) := by decide +kernel
theorem d5_75 : decode jdk_35_method_14_code 75 = .ok (.iload 6, 2) := by decide +kernel
theorem d5_77 : decode jdk_35_method_14_code 77 = .ok (.baload, 1) := by decide +kernel
theorem d5_78 : decode jdk_35_method_14_code 78 = .ok (.bastore, 1) := by decide +kernel
theorem d5_79 : decode jdk_35_method_14_code 79 = .ok (.goto (-55), 3) := by decide +kernel
theorem d5_0 : decode jdk_35_method_14_code 0 = .ok (.iload_n 2, 1) := by decide +kernel
theorem d5_1 : decode jdk_35_method_14_code 1 = .ok (.istore 7, 2) := by decide +kernel
theorem d5_3 : decode jdk_35_method_14_code 3 = .ok (.lload_n 0, 1) := by decide +kernel
theorem d5_4 : decode jdk_35_method_14_code 4 = .ok (.lconst 0, 1) := by decide +kernel
theorem d5_5 : decode jdk_35_method_14_code 5 = .ok (.lcmp, 1) := by decide +kernel
theorem d5_6 : decode jdk_35_method_14_code 6 = .ok (.ifCond .ge 7, 3) := by decide +kernel
theorem d5_13 : decode jdk_35_method_14_code 13 = .ok (.iconst 0, 1) := by decide +kernel
theorem d5_14 : decode jdk_35_method_14_code 14 = .ok (.istore 8, 2) := by decide +kernel
theorem d5_16 : decode jdk_35_method_14_code 16 = .ok (.iload 8, 2) := by decide +kernel
theorem d5_18 : decode jdk_35_method_14_code 18 = .ok (.ifCond .ne 6, 3) := by decide +kernel
theorem d5_21 : decode jdk_35_method_14_code 21 = .ok (.lload_n 0, 1) := by decide +kernel
theorem d5_22 : decode jdk_35_method_14_code 22 = .ok (.lneg, 1) := by decide +kernel
theorem d5_23 : decode jdk_35_method_14_code 23 = .ok (.lstore_n 0, 1) := by decide +kernel
set_option maxRecDepth 65536 in
set_option maxHeartbeats 40000000 in
theorem own_c5 (l : Launch) (Z : State) (a0 : Array Value) (hw : ∀ d ∈ tables_1, d.before a0 Z = true) (cs : Int32) (fv gv : Value) (d1 d2 : Addr) (G : own_G Z cs fv gv d1 d2) (h0 : Heap) (n0 : Nat) (O0 : Old Z n0 h0) (n k : Nat) (hn : n < 2 ^ 63) (hk : own_dl n k) (V : Addr) (gV : n0 ≤ V) (f0 : Nat → Nat) (fb0 : own_by f0) (A0 : ArF Z h0 V .byte k (own_iv f0)) :
    Con l Z (⟨"java/lang/Long", "getChars", "(JI[B)I"⟩ : MethodName) jdk_35_method_14_code 11 (some .int) [] ({ frames := 0, cells := 0, slots := 0, locals := 0 } : Room) 0 0 #[(.long (Int64.ofNat n)), (.int (Int32.ofNat k)), (.ref V)] h0 (fun r h L => (∃ v, r = some (.int v)) ∧ Keep h0 h [V] ∧ ArF Z h V .byte k (own_iv (own_dg n k)) ∧ Old Z n0 h ∧ Fr n0 L) := by
  refine Con.of own_pn31 ?_
  intro pg ev s_ m bl mt cd s₁ hx hby hml hown hnm hret hlk hZ X0 e0
  rw [ef_5]
  show Gd _ _ _ _ (s₁.setTop (mkF m 0 #[.val (.long (Int64.ofNat n)), .second, .val (.int (Int32.ofNat k)), .val (.ref V), .unset, .unset, .unset, .unset, .unset, .unset, .unset] []))
  have k19 := hk.2.1
  have k1 := hk.1
  have loop2 : ∀ (q w p : Nat) (f : Nat → Nat) (T : State) (h : Heap) (L : List Loc) (i0 : Int64) (s4 s5 s6 s9 : Slot), (s6 = .unset ∨ ∃ z : Int32, s6 = .val (.int z)) → (s9 = .unset ∨ ∃ z : Int32, s9 = .val (.int z)) → p ≤ q → w < 2 ^ 31 → Stand pg l ev ({ frames := 0, cells := 0, slots := 0, locals := 0 } : Room) s_ m #[(.long (Int64.ofNat n)), (.int (Int32.ofNat k)), (.ref V)] bl mt cd T L 0 0 → T.heap = h → ArF Z h V .byte k (own_iv f) → Keep h0 h [V] → Old Z n0 h → Fr n0 L → own_inv n k w p f → Gd pg.tables ev bl (Owes s_ 0 0 (fun r h L => (∃ v, r = some (.int v)) ∧ Keep h0 h [V] ∧ ArF Z h V .byte k (own_iv (own_dg n k)) ∧ Old Z n0 h ∧ Fr n0 L)) (T.setTop (mkF m 86 #[.val (.long i0), .second, .val (.int (Int32.ofNat k)), .val (.ref V), s4, s5, s6, .val (.int (Int32.ofNat p)), .val (.int (0 : Int32)), s9, .val (.int (-(Int32.ofNat w)))] [])) := by
    intro q
    induction q with
    | zero => intro w p f T h L i0 s4 s5 s6 s9 h6 h9 hq hw31 X eT FA K O N I; exact absurd I.1.1 (by omega)
    | succ q ih =>
      intro w p f T h L i0 s4 s5 s6 s9 h6 h9 hq hw31 X eT FA K O N I
      have pl := I.1
      have p1 := pl.1
      have p19 := pl.2.1
      have pk := I.2.2.1
      refine Gd.go (fun _ w_k => XS.iload X.here hx rfl (hb hby d5_86) rfl w_k) ?_
      show Gd _ _ _ _ (T.setTop (mkF m 88 #[.val (.long i0), .second, .val (.int (Int32.ofNat k)), .val (.ref V), s4, s5, s6, .val (.int (Int32.ofNat p)), .val (.int (0 : Int32)), s9, .val (.int (-(Int32.ofNat w)))] [(.int (-(Int32.ofNat w)))]))
      refine Gd.go (fun _ w_k => XS.bipush X.here hx rfl (hb hby d5_88) w_k) ?_
      show Gd _ _ _ _ (T.setTop (mkF m 90 #[.val (.long i0), .second, .val (.int (Int32.ofNat k)), .val (.ref V), s4, s5, s6, .val (.int (Int32.ofNat p)), .val (.int (0 : Int32)), s9, .val (.int (-(Int32.ofNat w)))] [(.int (-100 : Int32)), (.int (-(Int32.ofNat w)))]))
      by_cases w100 : w < 100
      · refine Gd.go (fun _ w_k => XS.icmpYes X.here hx rfl (pc0 := 90) (pc' := 143) rfl (hb hby d5_90) rfl (tlt ((own_h100 hw31).mpr w100)).2.2.1 (by decide) (by decide) w_k) ?_
        show Gd _ _ _ _ (T.setTop (mkF m 143 #[.val (.long i0), .second, .val (.int (Int32.ofNat k)), .val (.ref V), s4, s5, s6, .val (.int (Int32.ofNat p)), .val (.int (0 : Int32)), s9, .val (.int (-(Int32.ofNat w)))] []))
        refine Gd.go (fun _ w_k => XS.aloadN X.here hx rfl (hb hby d5_143) rfl rfl w_k) ?_
        show Gd _ _ _ _ (T.setTop (mkF m 144 #[.val (.long i0), .second, .val (.int (Int32.ofNat k)), .val (.ref V), s4, s5, s6, .val (.int (Int32.ofNat p)), .val (.int (0 : Int32)), s9, .val (.int (-(Int32.ofNat w)))] [(.ref V)]))
        refine Gd.go (fun _ w_k => XS.iinc X.here hx rfl (hb hby d5_144) rfl (l' := #[.val (.long i0), .second, .val (.int (Int32.ofNat k)), .val (.ref V), s4, s5, s6, .val (.int ((Int32.ofNat p) + (-1 : Int32))), .val (.int (0 : Int32)), s9, .val (.int (-(Int32.ofNat w)))]) rfl w_k) ?_
        show Gd _ _ _ _ (T.setTop (mkF m 147 #[.val (.long i0), .second, .val (.int (Int32.ofNat k)), .val (.ref V), s4, s5, s6, .val (.int ((Int32.ofNat p) + (-1 : Int32))), .val (.int (0 : Int32)), s9, .val (.int (-(Int32.ofNat w)))] [(.ref V)]))
        rw [own_dec (p := p) (by omega)]
        show Gd _ _ _ _ (T.setTop (mkF m 147 #[.val (.long i0), .second, .val (.int (Int32.ofNat k)), .val (.ref V), s4, s5, s6, .val (.int (Int32.ofNat (p - 1))), .val (.int (0 : Int32)), s9, .val (.int (-(Int32.ofNat w)))] [(.ref V)]))
        refine Gd.go (fun _ w_k => XS.iload X.here hx rfl (hb hby d5_147) rfl w_k) ?_
        show Gd _ _ _ _ (T.setTop (mkF m 149 #[.val (.long i0), .second, .val (.int (Int32.ofNat k)), .val (.ref V), s4, s5, s6, .val (.int (Int32.ofNat (p - 1))), .val (.int (0 : Int32)), s9, .val (.int (-(Int32.ofNat w)))] [(.int (Int32.ofNat (p - 1))), (.ref V)]))
        obtain ⟨T1, X1, e1, st1⟩ := getS2 X hx hZ hown (host := "") (Or.inl (hw _ (List.mem_of_getElem? (i := 43) rfl))) Via.refl eT (G.2.2.2.2.2.2.1.ext O.2) (g := (mkF m 149 #[.val (.long i0), .second, .val (.int (Int32.ofNat k)), .val (.ref V), s4, s5, s6, .val (.int (Int32.ofNat (p - 1))), .val (.int (0 : Int32)), s9, .val (.int (-(Int32.ofNat w)))] [(.int (Int32.ofNat (p - 1))), (.ref V)])) rfl (hb hby d5_149)
        refine Gd.go (fun _ w_k => st1 _ w_k) ?_
        show Gd _ _ _ _ (T1.setTop (mkF m 152 #[.val (.long i0), .second, .val (.int (Int32.ofNat k)), .val (.ref V), s4, s5, s6, .val (.int (Int32.ofNat (p - 1))), .val (.int (0 : Int32)), s9, .val (.int (-(Int32.ofNat w)))] [(.ref d1), (.int (Int32.ofNat (p - 1))), (.ref V)]))
        refine Gd.go (fun _ w_k => XS.iload X1.here hx rfl (hb hby d5_152) rfl w_k) ?_
        show Gd _ _ _ _ (T1.setTop (mkF m 154 #[.val (.long i0), .second, .val (.int (Int32.ofNat k)), .val (.ref V), s4, s5, s6, .val (.int (Int32.ofNat (p - 1))), .val (.int (0 : Int32)), s9, .val (.int (-(Int32.ofNat w)))] [(.int (-(Int32.ofNat w))), (.ref d1), (.int (Int32.ofNat (p - 1))), (.ref V)]))
        refine Gd.go (fun _ w_k => XS.ineg X1.here hx rfl (hb hby d5_154) rfl w_k) ?_
        show Gd _ _ _ _ (T1.setTop (mkF m 155 #[.val (.long i0), .second, .val (.int (Int32.ofNat k)), .val (.ref V), s4, s5, s6, .val (.int (Int32.ofNat (p - 1))), .val (.int (0 : Int32)), s9, .val (.int (-(Int32.ofNat w)))] [(.int (-(-(Int32.ofNat w)))), (.ref d1), (.int (Int32.ofNat (p - 1))), (.ref V)]))
        rw [Int32.neg_neg]
        show Gd _ _ _ _ (T1.setTop (mkF m 155 #[.val (.long i0), .second, .val (.int (Int32.ofNat k)), .val (.ref V), s4, s5, s6, .val (.int (Int32.ofNat (p - 1))), .val (.int (0 : Int32)), s9, .val (.int (-(Int32.ofNat w)))] [(.int (Int32.ofNat w)), (.ref d1), (.int (Int32.ofNat (p - 1))), (.ref V)]))
        refine Gd.go (fun _ w_k => own_ldB X1 hx hZ e1 (G.2.2.2.2.2.2.2.1.ext O.2) (j := (Int32.ofNat w)) (by rw [own_ofN (by omega)]; omega) (by rw [own_ofN (by omega)]; omega) (v := (.int (Int32.ofNat (own_ones w)))) (by rw [own_ofC (by omega)]; rfl) (g := (mkF m 155 #[.val (.long i0), .second, .val (.int (Int32.ofNat k)), .val (.ref V), s4, s5, s6, .val (.int (Int32.ofNat (p - 1))), .val (.int (0 : Int32)), s9, .val (.int (-(Int32.ofNat w)))] [(.int (Int32.ofNat w)), (.ref d1), (.int (Int32.ofNat (p - 1))), (.ref V)])) rfl rfl (hb hby d5_155) _ w_k) ?_
        show Gd _ _ _ _ (T1.setTop (mkF m 156 #[.val (.long i0), .second, .val (.int (Int32.ofNat k)), .val (.ref V), s4, s5, s6, .val (.int (Int32.ofNat (p - 1))), .val (.int (0 : Int32)), s9, .val (.int (-(Int32.ofNat w)))] [(.int (Int32.ofNat (own_ones w))), (.int (Int32.ofNat (p - 1))), (.ref V)]))
        obtain ⟨T2, h2, X2, e2, W2, st2⟩ := own_stB X1 hx hZ e1 FA (j := (Int32.ofNat (p - 1))) (by rw [own_ofN (by omega)]; omega) (by rw [own_ofN (by omega)]; omega) (g := (mkF m 156 #[.val (.long i0), .second, .val (.int (Int32.ofNat k)), .val (.ref V), s4, s5, s6, .val (.int (Int32.ofNat (p - 1))), .val (.int (0 : Int32)), s9, .val (.int (-(Int32.ofNat w)))] [(.int (Int32.ofNat (own_ones w))), (.int (Int32.ofNat (p - 1))), (.ref V)])) rfl rfl (hb hby d5_156)
        refine Gd.go (fun _ w_k => st2 _ w_k) ?_
        have xF3 := FA.set W2
        have xN4 := Fr.snoc X2 N gV
        have xO5 := Old.wr O W2 gV
        have xK6 := Keep.wr K W2 (Or.inl (List.mem_singleton.mpr rfl))
        show Gd _ _ _ _ (T2.setTop (mkF m 157 #[.val (.long i0), .second, .val (.int (Int32.ofNat k)), .val (.ref V), s4, s5, s6, .val (.int (Int32.ofNat (p - 1))), .val (.int (0 : Int32)), s9, .val (.int (-(Int32.ofNat w)))] []))
        have xS7 : ArF Z h2 V .byte k (own_iv (own_up f (p - 1) (own_ones w))) := by
          have q := xF3
          rw [own_ofC (by omega), own_upd (by unfold own_ones; omega)] at q
          exact q
        refine Gd.go (fun _ w_k => XS.iload X2.here hx rfl (hb hby d5_157) rfl w_k) ?_
        show Gd _ _ _ _ (T2.setTop (mkF m 159 #[.val (.long i0), .second, .val (.int (Int32.ofNat k)), .val (.ref V), s4, s5, s6, .val (.int (Int32.ofNat (p - 1))), .val (.int (0 : Int32)), s9, .val (.int (-(Int32.ofNat w)))] [(.int (-(Int32.ofNat w)))]))
        refine Gd.go (fun _ w_k => XS.bipush X2.here hx rfl (hb hby d5_159) w_k) ?_
        show Gd _ _ _ _ (T2.setTop (mkF m 161 #[.val (.long i0), .second, .val (.int (Int32.ofNat k)), .val (.ref V), s4, s5, s6, .val (.int (Int32.ofNat (p - 1))), .val (.int (0 : Int32)), s9, .val (.int (-(Int32.ofNat w)))] [(.int (-9 : Int32)), (.int (-(Int32.ofNat w)))]))
        by_cases w9 : 9 < w
        · refine Gd.go (fun _ w_k => XS.icmpNo X2.here hx rfl (hb hby d5_161) rfl (tlt ((own_h9 hw31).mpr w9)).2.1 w_k) ?_
          show Gd _ _ _ _ (T2.setTop (mkF m 164 #[.val (.long i0), .second, .val (.int (Int32.ofNat k)), .val (.ref V), s4, s5, s6, .val (.int (Int32.ofNat (p - 1))), .val (.int (0 : Int32)), s9, .val (.int (-(Int32.ofNat w)))] []))
          obtain ⟨pp2, fin2⟩ := own_fin2 I w9 w100
          refine Gd.go (fun _ w_k => XS.aloadN X2.here hx rfl (hb hby d5_164) rfl rfl w_k) ?_
          show Gd _ _ _ _ (T2.setTop (mkF m 165 #[.val (.long i0), .second, .val (.int (Int32.ofNat k)), .val (.ref V), s4, s5, s6, .val (.int (Int32.ofNat (p - 1))), .val (.int (0 : Int32)), s9, .val (.int (-(Int32.ofNat w)))] [(.ref V)]))
          refine Gd.go (fun _ w_k => XS.iinc X2.here hx rfl (hb hby d5_165) rfl (l' := #[.val (.long i0), .second, .val (.int (Int32.ofNat k)), .val (.ref V), s4, s5, s6, .val (.int ((Int32.ofNat (p - 1)) + (-1 : Int32))), .val (.int (0 : Int32)), s9, .val (.int (-(Int32.ofNat w)))]) rfl w_k) ?_
          show Gd _ _ _ _ (T2.setTop (mkF m 168 #[.val (.long i0), .second, .val (.int (Int32.ofNat k)), .val (.ref V), s4, s5, s6, .val (.int ((Int32.ofNat (p - 1)) + (-1 : Int32))), .val (.int (0 : Int32)), s9, .val (.int (-(Int32.ofNat w)))] [(.ref V)]))
          rw [own_dec (p := p - 1) (by omega)]
          show Gd _ _ _ _ (T2.setTop (mkF m 168 #[.val (.long i0), .second, .val (.int (Int32.ofNat k)), .val (.ref V), s4, s5, s6, .val (.int (Int32.ofNat (p - 1 - 1))), .val (.int (0 : Int32)), s9, .val (.int (-(Int32.ofNat w)))] [(.ref V)]))
          refine Gd.go (fun _ w_k => XS.iload X2.here hx rfl (hb hby d5_168) rfl w_k) ?_
          show Gd _ _ _ _ (T2.setTop (mkF m 170 #[.val (.long i0), .second, .val (.int (Int32.ofNat k)), .val (.ref V), s4, s5, s6, .val (.int (Int32.ofNat (p - 1 - 1))), .val (.int (0 : Int32)), s9, .val (.int (-(Int32.ofNat w)))] [(.int (Int32.ofNat (p - 1 - 1))), (.ref V)]))
          obtain ⟨T8, X8, e8, st8⟩ := getS2 X2 hx hZ hown (host := "") (Or.inl (hw _ (List.mem_of_getElem? (i := 204) rfl))) Via.refl e2 (G.2.2.2.2.2.2.2.2.1.ext xO5.2) (g := (mkF m 170 #[.val (.long i0), .second, .val (.int (Int32.ofNat k)), .val (.ref V), s4, s5, s6, .val (.int (Int32.ofNat (p - 1 - 1))), .val (.int (0 : Int32)), s9, .val (.int (-(Int32.ofNat w)))] [(.int (Int32.ofNat (p - 1 - 1))), (.ref V)])) rfl (hb hby d5_170)
          refine Gd.go (fun _ w_k => st8 _ w_k) ?_
          show Gd _ _ _ _ (T8.setTop (mkF m 173 #[.val (.long i0), .second, .val (.int (Int32.ofNat k)), .val (.ref V), s4, s5, s6, .val (.int (Int32.ofNat (p - 1 - 1))), .val (.int (0 : Int32)), s9, .val (.int (-(Int32.ofNat w)))] [(.ref d2), (.int (Int32.ofNat (p - 1 - 1))), (.ref V)]))
          refine Gd.go (fun _ w_k => XS.iload X8.here hx rfl (hb hby d5_173) rfl w_k) ?_
          show Gd _ _ _ _ (T8.setTop (mkF m 175 #[.val (.long i0), .second, .val (.int (Int32.ofNat k)), .val (.ref V), s4, s5, s6, .val (.int (Int32.ofNat (p - 1 - 1))), .val (.int (0 : Int32)), s9, .val (.int (-(Int32.ofNat w)))] [(.int (-(Int32.ofNat w))), (.ref d2), (.int (Int32.ofNat (p - 1 - 1))), (.ref V)]))
          refine Gd.go (fun _ w_k => XS.ineg X8.here hx rfl (hb hby d5_175) rfl w_k) ?_
          show Gd _ _ _ _ (T8.setTop (mkF m 176 #[.val (.long i0), .second, .val (.int (Int32.ofNat k)), .val (.ref V), s4, s5, s6, .val (.int (Int32.ofNat (p - 1 - 1))), .val (.int (0 : Int32)), s9, .val (.int (-(Int32.ofNat w)))] [(.int (-(-(Int32.ofNat w)))), (.ref d2), (.int (Int32.ofNat (p - 1 - 1))), (.ref V)]))
          rw [Int32.neg_neg]
          show Gd _ _ _ _ (T8.setTop (mkF m 176 #[.val (.long i0), .second, .val (.int (Int32.ofNat k)), .val (.ref V), s4, s5, s6, .val (.int (Int32.ofNat (p - 1 - 1))), .val (.int (0 : Int32)), s9, .val (.int (-(Int32.ofNat w)))] [(.int (Int32.ofNat w)), (.ref d2), (.int (Int32.ofNat (p - 1 - 1))), (.ref V)]))
          refine Gd.go (fun _ w_k => own_ldB X8 hx hZ e8 (G.2.2.2.2.2.2.2.2.2.ext xO5.2) (j := (Int32.ofNat w)) (by rw [own_ofN (by omega)]; omega) (by rw [own_ofN (by omega)]; omega) (v := (.int (Int32.ofNat (own_tens w)))) (by rw [own_ofC (by omega)]; rfl) (g := (mkF m 176 #[.val (.long i0), .second, .val (.int (Int32.ofNat k)), .val (.ref V), s4, s5, s6, .val (.int (Int32.ofNat (p - 1 - 1))), .val (.int (0 : Int32)), s9, .val (.int (-(Int32.ofNat w)))] [(.int (Int32.ofNat w)), (.ref d2), (.int (Int32.ofNat (p - 1 - 1))), (.ref V)])) rfl rfl (hb hby d5_176) _ w_k) ?_
          show Gd _ _ _ _ (T8.setTop (mkF m 177 #[.val (.long i0), .second, .val (.int (Int32.ofNat k)), .val (.ref V), s4, s5, s6, .val (.int (Int32.ofNat (p - 1 - 1))), .val (.int (0 : Int32)), s9, .val (.int (-(Int32.ofNat w)))] [(.int (Int32.ofNat (own_tens w))), (.int (Int32.ofNat (p - 1 - 1))), (.ref V)]))
          obtain ⟨T9, h9, X9, e9, W9, st9⟩ := own_stB X8 hx hZ e8 xS7 (j := (Int32.ofNat (p - 1 - 1))) (by rw [own_ofN (by omega)]; omega) (by rw [own_ofN (by omega)]; omega) (g := (mkF m 177 #[.val (.long i0), .second, .val (.int (Int32.ofNat k)), .val (.ref V), s4, s5, s6, .val (.int (Int32.ofNat (p - 1 - 1))), .val (.int (0 : Int32)), s9, .val (.int (-(Int32.ofNat w)))] [(.int (Int32.ofNat (own_tens w))), (.int (Int32.ofNat (p - 1 - 1))), (.ref V)])) rfl rfl (hb hby d5_177)
          refine Gd.go (fun _ w_k => st9 _ w_k) ?_
          have xF10 := xS7.set W9
          have xN11 := Fr.snoc X9 xN4 gV
          have xO12 := Old.wr xO5 W9 gV
          have xK13 := Keep.wr xK6 W9 (Or.inl (List.mem_singleton.mpr rfl))
          show Gd _ _ _ _ (T9.setTop (mkF m 178 #[.val (.long i0), .second, .val (.int (Int32.ofNat k)), .val (.ref V), s4, s5, s6, .val (.int (Int32.ofNat (p - 1 - 1))), .val (.int (0 : Int32)), s9, .val (.int (-(Int32.ofNat w)))] []))
          have xS14 : ArF Z h9 V .byte k (own_iv (own_up (own_up f (p - 1) (own_ones w)) (p - 1 - 1) (own_tens w))) := by
            have q := xF10
            rw [own_ofC (by omega), own_upd (by unfold own_tens; omega)] at q
            exact q
          refine Gd.go (fun _ w_k => XS.iload X9.here hx rfl (hb hby d5_178) rfl w_k) ?_
          show Gd _ _ _ _ (T9.setTop (mkF m 180 #[.val (.long i0), .second, .val (.int (Int32.ofNat k)), .val (.ref V), s4, s5, s6, .val (.int (Int32.ofNat (p - 1 - 1))), .val (.int (0 : Int32)), s9, .val (.int (-(Int32.ofNat w)))] [(.int (0 : Int32))]))
          refine Gd.go (fun _ w_k => XS.ifYes X9.here hx rfl (pc0 := 180) (pc' := 192) rfl (hb hby d5_180) rfl ((if0 _ _).trans (teq (by decide)).1) (by decide) (by decide) w_k) ?_
          show Gd _ _ _ _ (T9.setTop (mkF m 192 #[.val (.long i0), .second, .val (.int (Int32.ofNat k)), .val (.ref V), s4, s5, s6, .val (.int (Int32.ofNat (p - 1 - 1))), .val (.int (0 : Int32)), s9, .val (.int (-(Int32.ofNat w)))] []))
          refine Gd.go (fun _ w_k => XS.iload X9.here hx rfl (hb hby d5_192) rfl w_k) ?_
          show Gd _ _ _ _ (T9.setTop (mkF m 194 #[.val (.long i0), .second, .val (.int (Int32.ofNat k)), .val (.ref V), s4, s5, s6, .val (.int (Int32.ofNat (p - 1 - 1))), .val (.int (0 : Int32)), s9, .val (.int (-(Int32.ofNat w)))] [(.int (Int32.ofNat (p - 1 - 1)))]))
          refine own_retI X9 hx hret hlk (hb hby d5_194) ?_ (by decide) (by decide)
          rw [e9]
          exact ⟨⟨_, rfl⟩, xK13, ArF.congr xS14 (fun i hi => congrArg (fun q => Value.int (Int32.ofNat q)) (fin2 i hi)), xO12, xN11⟩
        · refine Gd.go (fun _ w_k => XS.icmpYes X2.here hx rfl (pc0 := 161) (pc' := 178) rfl (hb hby d5_161) rfl (flt (fun q => w9 ((own_h9 hw31).mp q))).2.1 (by decide) (by decide) w_k) ?_
          show Gd _ _ _ _ (T2.setTop (mkF m 178 #[.val (.long i0), .second, .val (.int (Int32.ofNat k)), .val (.ref V), s4, s5, s6, .val (.int (Int32.ofNat (p - 1))), .val (.int (0 : Int32)), s9, .val (.int (-(Int32.ofNat w)))] []))
          refine Gd.go (fun _ w_k => XS.iload X2.here hx rfl (hb hby d5_178) rfl w_k) ?_
          show Gd _ _ _ _ (T2.setTop (mkF m 180 #[.val (.long i0), .second, .val (.int (Int32.ofNat k)), .val (.ref V), s4, s5, s6, .val (.int (Int32.ofNat (p - 1))), .val (.int (0 : Int32)), s9, .val (.int (-(Int32.ofNat w)))] [(.int (0 : Int32))]))
          refine Gd.go (fun _ w_k => XS.ifYes X2.here hx rfl (pc0 := 180) (pc' := 192) rfl (hb hby d5_180) rfl ((if0 _ _).trans (teq (by decide)).1) (by decide) (by decide) w_k) ?_
          show Gd _ _ _ _ (T2.setTop (mkF m 192 #[.val (.long i0), .second, .val (.int (Int32.ofNat k)), .val (.ref V), s4, s5, s6, .val (.int (Int32.ofNat (p - 1))), .val (.int (0 : Int32)), s9, .val (.int (-(Int32.ofNat w)))] []))
          refine Gd.go (fun _ w_k => XS.iload X2.here hx rfl (hb hby d5_192) rfl w_k) ?_
          show Gd _ _ _ _ (T2.setTop (mkF m 194 #[.val (.long i0), .second, .val (.int (Int32.ofNat k)), .val (.ref V), s4, s5, s6, .val (.int (Int32.ofNat (p - 1))), .val (.int (0 : Int32)), s9, .val (.int (-(Int32.ofNat w)))] [(.int (Int32.ofNat (p - 1)))]))
          refine own_retI X2 hx hret hlk (hb hby d5_194) ?_ (by decide) (by decide)
          rw [e2]
          exact ⟨⟨_, rfl⟩, xK6, ArF.congr xS7 (fun i hi => congrArg (fun q => Value.int (Int32.ofNat q)) (own_fin1 I w9 i hi)), xO5, xN4⟩
      · refine Gd.go (fun _ w_k => XS.icmpNo X.here hx rfl (hb hby d5_90) rfl (flt (fun q => w100 ((own_h100 hw31).mp q))).2.2.1 w_k) ?_
        show Gd _ _ _ _ (T.setTop (mkF m 93 #[.val (.long i0), .second, .val (.int (Int32.ofNat k)), .val (.ref V), s4, s5, s6, .val (.int (Int32.ofNat p)), .val (.int (0 : Int32)), s9, .val (.int (-(Int32.ofNat w)))] []))
        have p3 : ¬ p ≤ 2 := fun q => w100 ((own_lenlt pl (j := 2) (by decide)).mpr q)
        have w100 : 100 ≤ w := Nat.le_of_not_lt w100
        refine Gd.go (fun _ w_k => XS.iload X.here hx rfl (hb hby d5_93) rfl w_k) ?_
        show Gd _ _ _ _ (T.setTop (mkF m 95 #[.val (.long i0), .second, .val (.int (Int32.ofNat k)), .val (.ref V), s4, s5, s6, .val (.int (Int32.ofNat p)), .val (.int (0 : Int32)), s9, .val (.int (-(Int32.ofNat w)))] [(.int (-(Int32.ofNat w)))]))
        refine Gd.go (fun _ w_k => XS.bipush X.here hx rfl (hb hby d5_95) w_k) ?_
        show Gd _ _ _ _ (T.setTop (mkF m 97 #[.val (.long i0), .second, .val (.int (Int32.ofNat k)), .val (.ref V), s4, s5, s6, .val (.int (Int32.ofNat p)), .val (.int (0 : Int32)), s9, .val (.int (-(Int32.ofNat w)))] [(.int (100 : Int32)), (.int (-(Int32.ofNat w)))]))
        refine Gd.go (fun _ w_k => XS.idiv X.here hx rfl (hb hby d5_97) rfl (by decide) w_k) ?_
        show Gd _ _ _ _ (T.setTop (mkF m 98 #[.val (.long i0), .second, .val (.int (Int32.ofNat k)), .val (.ref V), s4, s5, s6, .val (.int (Int32.ofNat p)), .val (.int (0 : Int32)), s9, .val (.int (-(Int32.ofNat w)))] [(.int ((-(Int32.ofNat w)) / (100 : Int32)))]))
        rw [own_q32 hw31]
        show Gd _ _ _ _ (T.setTop (mkF m 98 #[.val (.long i0), .second, .val (.int (Int32.ofNat k)), .val (.ref V), s4, s5, s6, .val (.int (Int32.ofNat p)), .val (.int (0 : Int32)), s9, .val (.int (-(Int32.ofNat w)))] [(.int (-(Int32.ofNat (w / 100))))]))
        refine Gd.go (fun _ w_k => XS.istore X.here hx rfl (hb hby d5_98) rfl (l' := #[.val (.long i0), .second, .val (.int (Int32.ofNat k)), .val (.ref V), s4, s5, s6, .val (.int (Int32.ofNat p)), .val (.int (0 : Int32)), .val (.int (-(Int32.ofNat (w / 100)))), .val (.int (-(Int32.ofNat w)))]) (by rcases h9 with rfl | ⟨_, rfl⟩ <;> rfl) w_k) ?_
        show Gd _ _ _ _ (T.setTop (mkF m 100 #[.val (.long i0), .second, .val (.int (Int32.ofNat k)), .val (.ref V), s4, s5, s6, .val (.int (Int32.ofNat p)), .val (.int (0 : Int32)), .val (.int (-(Int32.ofNat (w / 100)))), .val (.int (-(Int32.ofNat w)))] []))
        refine Gd.go (fun _ w_k => XS.iload X.here hx rfl (hb hby d5_100) rfl w_k) ?_
        show Gd _ _ _ _ (T.setTop (mkF m 102 #[.val (.long i0), .second, .val (.int (Int32.ofNat k)), .val (.ref V), s4, s5, s6, .val (.int (Int32.ofNat p)), .val (.int (0 : Int32)), .val (.int (-(Int32.ofNat (w / 100)))), .val (.int (-(Int32.ofNat w)))] [(.int (-(Int32.ofNat (w / 100))))]))
        refine Gd.go (fun _ w_k => XS.bipush X.here hx rfl (hb hby d5_102) w_k) ?_
        show Gd _ _ _ _ (T.setTop (mkF m 104 #[.val (.long i0), .second, .val (.int (Int32.ofNat k)), .val (.ref V), s4, s5, s6, .val (.int (Int32.ofNat p)), .val (.int (0 : Int32)), .val (.int (-(Int32.ofNat (w / 100)))), .val (.int (-(Int32.ofNat w)))] [(.int (100 : Int32)), (.int (-(Int32.ofNat (w / 100))))]))
        refine Gd.go (fun _ w_k => XS.imul X.here hx rfl (hb hby d5_104) rfl w_k) ?_
        show Gd _ _ _ _ (T.setTop (mkF m 105 #[.val (.long i0), .second, .val (.int (Int32.ofNat k)), .val (.ref V), s4, s5, s6, .val (.int (Int32.ofNat p)), .val (.int (0 : Int32)), .val (.int (-(Int32.ofNat (w / 100)))), .val (.int (-(Int32.ofNat w)))] [(.int ((-(Int32.ofNat (w / 100))) * (100 : Int32)))]))
        refine Gd.go (fun _ w_k => XS.iload X.here hx rfl (hb hby d5_105) rfl w_k) ?_
        show Gd _ _ _ _ (T.setTop (mkF m 107 #[.val (.long i0), .second, .val (.int (Int32.ofNat k)), .val (.ref V), s4, s5, s6, .val (.int (Int32.ofNat p)), .val (.int (0 : Int32)), .val (.int (-(Int32.ofNat (w / 100)))), .val (.int (-(Int32.ofNat w)))] [(.int (-(Int32.ofNat w))), (.int ((-(Int32.ofNat (w / 100))) * (100 : Int32)))]))
        refine Gd.go (fun _ w_k => XS.isub X.here hx rfl (hb hby d5_107) rfl w_k) ?_
        show Gd _ _ _ _ (T.setTop (mkF m 108 #[.val (.long i0), .second, .val (.int (Int32.ofNat k)), .val (.ref V), s4, s5, s6, .val (.int (Int32.ofNat p)), .val (.int (0 : Int32)), .val (.int (-(Int32.ofNat (w / 100)))), .val (.int (-(Int32.ofNat w)))] [(.int (((-(Int32.ofNat (w / 100))) * (100 : Int32)) - (-(Int32.ofNat w))))]))
        rw [own_r32 hw31]
        show Gd _ _ _ _ (T.setTop (mkF m 108 #[.val (.long i0), .second, .val (.int (Int32.ofNat k)), .val (.ref V), s4, s5, s6, .val (.int (Int32.ofNat p)), .val (.int (0 : Int32)), .val (.int (-(Int32.ofNat (w / 100)))), .val (.int (-(Int32.ofNat w)))] [(.int (Int32.ofNat (w % 100)))]))
        refine Gd.go (fun _ w_k => XS.istore X.here hx rfl (hb hby d5_108) rfl (l' := #[.val (.long i0), .second, .val (.int (Int32.ofNat k)), .val (.ref V), s4, s5, .val (.int (Int32.ofNat (w % 100))), .val (.int (Int32.ofNat p)), .val (.int (0 : Int32)), .val (.int (-(Int32.ofNat (w / 100)))), .val (.int (-(Int32.ofNat w)))]) (by rcases h6 with rfl | ⟨_, rfl⟩ <;> rfl) w_k) ?_
        show Gd _ _ _ _ (T.setTop (mkF m 110 #[.val (.long i0), .second, .val (.int (Int32.ofNat k)), .val (.ref V), s4, s5, .val (.int (Int32.ofNat (w % 100))), .val (.int (Int32.ofNat p)), .val (.int (0 : Int32)), .val (.int (-(Int32.ofNat (w / 100)))), .val (.int (-(Int32.ofNat w)))] []))
        refine Gd.go (fun _ w_k => XS.iload X.here hx rfl (hb hby d5_110) rfl w_k) ?_
        show Gd _ _ _ _ (T.setTop (mkF m 112 #[.val (.long i0), .second, .val (.int (Int32.ofNat k)), .val (.ref V), s4, s5, .val (.int (Int32.ofNat (w % 100))), .val (.int (Int32.ofNat p)), .val (.int (0 : Int32)), .val (.int (-(Int32.ofNat (w / 100)))), .val (.int (-(Int32.ofNat w)))] [(.int (-(Int32.ofNat (w / 100))))]))
        refine Gd.go (fun _ w_k => XS.istore X.here hx rfl (hb hby d5_112) rfl (l' := #[.val (.long i0), .second, .val (.int (Int32.ofNat k)), .val (.ref V), s4, s5, .val (.int (Int32.ofNat (w % 100))), .val (.int (Int32.ofNat p)), .val (.int (0 : Int32)), .val (.int (-(Int32.ofNat (w / 100)))), .val (.int (-(Int32.ofNat (w / 100))))]) rfl w_k) ?_
        show Gd _ _ _ _ (T.setTop (mkF m 114 #[.val (.long i0), .second, .val (.int (Int32.ofNat k)), .val (.ref V), s4, s5, .val (.int (Int32.ofNat (w % 100))), .val (.int (Int32.ofNat p)), .val (.int (0 : Int32)), .val (.int (-(Int32.ofNat (w / 100)))), .val (.int (-(Int32.ofNat (w / 100))))] []))
        refine Gd.go (fun _ w_k => XS.aloadN X.here hx rfl (hb hby d5_114) rfl rfl w_k) ?_
        show Gd _ _ _ _ (T.setTop (mkF m 115 #[.val (.long i0), .second, .val (.int (Int32.ofNat k)), .val (.ref V), s4, s5, .val (.int (Int32.ofNat (w % 100))), .val (.int (Int32.ofNat p)), .val (.int (0 : Int32)), .val (.int (-(Int32.ofNat (w / 100)))), .val (.int (-(Int32.ofNat (w / 100))))] [(.ref V)]))
        refine Gd.go (fun _ w_k => XS.iinc X.here hx rfl (hb hby d5_115) rfl (l' := #[.val (.long i0), .second, .val (.int (Int32.ofNat k)), .val (.ref V), s4, s5, .val (.int (Int32.ofNat (w % 100))), .val (.int ((Int32.ofNat p) + (-1 : Int32))), .val (.int (0 : Int32)), .val (.int (-(Int32.ofNat (w / 100)))), .val (.int (-(Int32.ofNat (w / 100))))]) rfl w_k) ?_
        show Gd _ _ _ _ (T.setTop (mkF m 118 #[.val (.long i0), .second, .val (.int (Int32.ofNat k)), .val (.ref V), s4, s5, .val (.int (Int32.ofNat (w % 100))), .val (.int ((Int32.ofNat p) + (-1 : Int32))), .val (.int (0 : Int32)), .val (.int (-(Int32.ofNat (w / 100)))), .val (.int (-(Int32.ofNat (w / 100))))] [(.ref V)]))
        rw [own_dec (p := p) (by omega)]
        show Gd _ _ _ _ (T.setTop (mkF m 118 #[.val (.long i0), .second, .val (.int (Int32.ofNat k)), .val (.ref V), s4, s5, .val (.int (Int32.ofNat (w % 100))), .val (.int (Int32.ofNat (p - 1))), .val (.int (0 : Int32)), .val (.int (-(Int32.ofNat (w / 100)))), .val (.int (-(Int32.ofNat (w / 100))))] [(.ref V)]))
        refine Gd.go (fun _ w_k => XS.iload X.here hx rfl (hb hby d5_118) rfl w_k) ?_
        show Gd _ _ _ _ (T.setTop (mkF m 120 #[.val (.long i0), .second, .val (.int (Int32.ofNat k)), .val (.ref V), s4, s5, .val (.int (Int32.ofNat (w % 100))), .val (.int (Int32.ofNat (p - 1))), .val (.int (0 : Int32)), .val (.int (-(Int32.ofNat (w / 100)))), .val (.int (-(Int32.ofNat (w / 100))))] [(.int (Int32.ofNat (p - 1))), (.ref V)]))
        obtain ⟨T15, X15, e15, st15⟩ := getS2 X hx hZ hown (host := "") (Or.inl (hw _ (List.mem_of_getElem? (i := 43) rfl))) Via.refl eT (G.2.2.2.2.2.2.1.ext O.2) (g := (mkF m 120 #[.val (.long i0), .second, .val (.int (Int32.ofNat k)), .val (.ref V), s4, s5, .val (.int (Int32.ofNat (w % 100))), .val (.int (Int32.ofNat (p - 1))), .val (.int (0 : Int32)), .val (.int (-(Int32.ofNat (w / 100)))), .val (.int (-(Int32.ofNat (w / 100))))] [(.int (Int32.ofNat (p - 1))), (.ref V)])) rfl (hb hby d5_120)
        refine Gd.go (fun _ w_k => st15 _ w_k) ?_
        show Gd _ _ _ _ (T15.setTop (mkF m 123 #[.val (.long i0), .second, .val (.int (Int32.ofNat k)), .val (.ref V), s4, s5, .val (.int (Int32.ofNat (w % 100))), .val (.int (Int32.ofNat (p - 1))), .val (.int (0 : Int32)), .val (.int (-(Int32.ofNat (w / 100)))), .val (.int (-(Int32.ofNat (w / 100))))] [(.ref d1), (.int (Int32.ofNat (p - 1))), (.ref V)]))
        refine Gd.go (fun _ w_k => XS.iload X15.here hx rfl (hb hby d5_123) rfl w_k) ?_
        show Gd _ _ _ _ (T15.setTop (mkF m 125 #[.val (.long i0), .second, .val (.int (Int32.ofNat k)), .val (.ref V), s4, s5, .val (.int (Int32.ofNat (w % 100))), .val (.int (Int32.ofNat (p - 1))), .val (.int (0 : Int32)), .val (.int (-(Int32.ofNat (w / 100)))), .val (.int (-(Int32.ofNat (w / 100))))] [(.int (Int32.ofNat (w % 100))), (.ref d1), (.int (Int32.ofNat (p - 1))), (.ref V)]))
        refine Gd.go (fun _ w_k => own_ldB X15 hx hZ e15 (G.2.2.2.2.2.2.2.1.ext O.2) (j := (Int32.ofNat (w % 100))) (by rw [own_ofN (by omega)]; omega) (by rw [own_ofN (by omega)]; omega) (v := (.int (Int32.ofNat (own_ones (w % 100))))) (by rw [own_ofC (by omega)]; rfl) (g := (mkF m 125 #[.val (.long i0), .second, .val (.int (Int32.ofNat k)), .val (.ref V), s4, s5, .val (.int (Int32.ofNat (w % 100))), .val (.int (Int32.ofNat (p - 1))), .val (.int (0 : Int32)), .val (.int (-(Int32.ofNat (w / 100)))), .val (.int (-(Int32.ofNat (w / 100))))] [(.int (Int32.ofNat (w % 100))), (.ref d1), (.int (Int32.ofNat (p - 1))), (.ref V)])) rfl rfl (hb hby d5_125) _ w_k) ?_
        show Gd _ _ _ _ (T15.setTop (mkF m 126 #[.val (.long i0), .second, .val (.int (Int32.ofNat k)), .val (.ref V), s4, s5, .val (.int (Int32.ofNat (w % 100))), .val (.int (Int32.ofNat (p - 1))), .val (.int (0 : Int32)), .val (.int (-(Int32.ofNat (w / 100)))), .val (.int (-(Int32.ofNat (w / 100))))] [(.int (Int32.ofNat (own_ones (w % 100)))), (.int (Int32.ofNat (p - 1))), (.ref V)]))
        obtain ⟨T16, h16, X16, e16, W16, st16⟩ := own_stB X15 hx hZ e15 FA (j := (Int32.ofNat (p - 1))) (by rw [own_ofN (by omega)]; omega) (by rw [own_ofN (by omega)]; omega) (g := (mkF m 126 #[.val (.long i0), .second, .val (.int (Int32.ofNat k)), .val (.ref V), s4, s5, .val (.int (Int32.ofNat (w % 100))), .val (.int (Int32.ofNat (p - 1))), .val (.int (0 : Int32)), .val (.int (-(Int32.ofNat (w / 100)))), .val (.int (-(Int32.ofNat (w / 100))))] [(.int (Int32.ofNat (own_ones (w % 100)))), (.int (Int32.ofNat (p - 1))), (.ref V)])) rfl rfl (hb hby d5_126)
        refine Gd.go (fun _ w_k => st16 _ w_k) ?_
        have xF17 := FA.set W16
        have xN18 := Fr.snoc X16 N gV
        have xO19 := Old.wr O W16 gV
        have xK20 := Keep.wr K W16 (Or.inl (List.mem_singleton.mpr rfl))
        show Gd _ _ _ _ (T16.setTop (mkF m 127 #[.val (.long i0), .second, .val (.int (Int32.ofNat k)), .val (.ref V), s4, s5, .val (.int (Int32.ofNat (w % 100))), .val (.int (Int32.ofNat (p - 1))), .val (.int (0 : Int32)), .val (.int (-(Int32.ofNat (w / 100)))), .val (.int (-(Int32.ofNat (w / 100))))] []))
        have xS21 : ArF Z h16 V .byte k (own_iv (own_up f (p - 1) (own_ones (w % 100)))) := by
          have q := xF17
          rw [own_ofC (by omega), own_upd (by unfold own_ones; omega)] at q
          exact q
        refine Gd.go (fun _ w_k => XS.aloadN X16.here hx rfl (hb hby d5_127) rfl rfl w_k) ?_
        show Gd _ _ _ _ (T16.setTop (mkF m 128 #[.val (.long i0), .second, .val (.int (Int32.ofNat k)), .val (.ref V), s4, s5, .val (.int (Int32.ofNat (w % 100))), .val (.int (Int32.ofNat (p - 1))), .val (.int (0 : Int32)), .val (.int (-(Int32.ofNat (w / 100)))), .val (.int (-(Int32.ofNat (w / 100))))] [(.ref V)]))
        refine Gd.go (fun _ w_k => XS.iinc X16.here hx rfl (hb hby d5_128) rfl (l' := #[.val (.long i0), .second, .val (.int (Int32.ofNat k)), .val (.ref V), s4, s5, .val (.int (Int32.ofNat (w % 100))), .val (.int ((Int32.ofNat (p - 1)) + (-1 : Int32))), .val (.int (0 : Int32)), .val (.int (-(Int32.ofNat (w / 100)))), .val (.int (-(Int32.ofNat (w / 100))))]) rfl w_k) ?_
        show Gd _ _ _ _ (T16.setTop (mkF m 131 #[.val (.long i0), .second, .val (.int (Int32.ofNat k)), .val (.ref V), s4, s5, .val (.int (Int32.ofNat (w % 100))), .val (.int ((Int32.ofNat (p - 1)) + (-1 : Int32))), .val (.int (0 : Int32)), .val (.int (-(Int32.ofNat (w / 100)))), .val (.int (-(Int32.ofNat (w / 100))))] [(.ref V)]))
        rw [own_dec (p := p - 1) (by omega)]
        show Gd _ _ _ _ (T16.setTop (mkF m 131 #[.val (.long i0), .second, .val (.int (Int32.ofNat k)), .val (.ref V), s4, s5, .val (.int (Int32.ofNat (w % 100))), .val (.int (Int32.ofNat (p - 1 - 1))), .val (.int (0 : Int32)), .val (.int (-(Int32.ofNat (w / 100)))), .val (.int (-(Int32.ofNat (w / 100))))] [(.ref V)]))
        refine Gd.go (fun _ w_k => XS.iload X16.here hx rfl (hb hby d5_131) rfl w_k) ?_
        show Gd _ _ _ _ (T16.setTop (mkF m 133 #[.val (.long i0), .second, .val (.int (Int32.ofNat k)), .val (.ref V), s4, s5, .val (.int (Int32.ofNat (w % 100))), .val (.int (Int32.ofNat (p - 1 - 1))), .val (.int (0 : Int32)), .val (.int (-(Int32.ofNat (w / 100)))), .val (.int (-(Int32.ofNat (w / 100))))] [(.int (Int32.ofNat (p - 1 - 1))), (.ref V)]))
        obtain ⟨T22, X22, e22, st22⟩ := getS2 X16 hx hZ hown (host := "") (Or.inl (hw _ (List.mem_of_getElem? (i := 204) rfl))) Via.refl e16 (G.2.2.2.2.2.2.2.2.1.ext xO19.2) (g := (mkF m 133 #[.val (.long i0), .second, .val (.int (Int32.ofNat k)), .val (.ref V), s4, s5, .val (.int (Int32.ofNat (w % 100))), .val (.int (Int32.ofNat (p - 1 - 1))), .val (.int (0 : Int32)), .val (.int (-(Int32.ofNat (w / 100)))), .val (.int (-(Int32.ofNat (w / 100))))] [(.int (Int32.ofNat (p - 1 - 1))), (.ref V)])) rfl (hb hby d5_133)
        refine Gd.go (fun _ w_k => st22 _ w_k) ?_
        show Gd _ _ _ _ (T22.setTop (mkF m 136 #[.val (.long i0), .second, .val (.int (Int32.ofNat k)), .val (.ref V), s4, s5, .val (.int (Int32.ofNat (w % 100))), .val (.int (Int32.ofNat (p - 1 - 1))), .val (.int (0 : Int32)), .val (.int (-(Int32.ofNat (w / 100)))), .val (.int (-(Int32.ofNat (w / 100))))] [(.ref d2), (.int (Int32.ofNat (p - 1 - 1))), (.ref V)]))
        refine Gd.go (fun _ w_k => XS.iload X22.here hx rfl (hb hby d5_136) rfl w_k) ?_
        show Gd _ _ _ _ (T22.setTop (mkF m 138 #[.val (.long i0), .second, .val (.int (Int32.ofNat k)), .val (.ref V), s4, s5, .val (.int (Int32.ofNat (w % 100))), .val (.int (Int32.ofNat (p - 1 - 1))), .val (.int (0 : Int32)), .val (.int (-(Int32.ofNat (w / 100)))), .val (.int (-(Int32.ofNat (w / 100))))] [(.int (Int32.ofNat (w % 100))), (.ref d2), (.int (Int32.ofNat (p - 1 - 1))), (.ref V)]))
        refine Gd.go (fun _ w_k => own_ldB X22 hx hZ e22 (G.2.2.2.2.2.2.2.2.2.ext xO19.2) (j := (Int32.ofNat (w % 100))) (by rw [own_ofN (by omega)]; omega) (by rw [own_ofN (by omega)]; omega) (v := (.int (Int32.ofNat (own_tens (w % 100))))) (by rw [own_ofC (by omega)]; rfl) (g := (mkF m 138 #[.val (.long i0), .second, .val (.int (Int32.ofNat k)), .val (.ref V), s4, s5, .val (.int (Int32.ofNat (w % 100))), .val (.int (Int32.ofNat (p - 1 - 1))), .val (.int (0 : Int32)), .val (.int (-(Int32.ofNat (w / 100)))), .val (.int (-(Int32.ofNat (w / 100))))] [(.int (Int32.ofNat (w % 100))), (.ref d2), (.int (Int32.ofNat (p - 1 - 1))), (.ref V)])) rfl rfl (hb hby d5_138) _ w_k) ?_
        show Gd _ _ _ _ (T22.setTop (mkF m 139 #[.val (.long i0), .second, .val (.int (Int32.ofNat k)), .val (.ref V), s4, s5, .val (.int (Int32.ofNat (w % 100))), .val (.int (Int32.ofNat (p - 1 - 1))), .val (.int (0 : Int32)), .val (.int (-(Int32.ofNat (w / 100)))), .val (.int (-(Int32.ofNat (w / 100))))] [(.int (Int32.ofNat (own_tens (w % 100)))), (.int (Int32.ofNat (p - 1 - 1))), (.ref V)]))
        obtain ⟨T23, h23, X23, e23, W23, st23⟩ := own_stB X22 hx hZ e22 xS21 (j := (Int32.ofNat (p - 1 - 1))) (by rw [own_ofN (by omega)]; omega) (by rw [own_ofN (by omega)]; omega) (g := (mkF m 139 #[.val (.long i0), .second, .val (.int (Int32.ofNat k)), .val (.ref V), s4, s5, .val (.int (Int32.ofNat (w % 100))), .val (.int (Int32.ofNat (p - 1 - 1))), .val (.int (0 : Int32)), .val (.int (-(Int32.ofNat (w / 100)))), .val (.int (-(Int32.ofNat (w / 100))))] [(.int (Int32.ofNat (own_tens (w % 100)))), (.int (Int32.ofNat (p - 1 - 1))), (.ref V)])) rfl rfl (hb hby d5_139)
        refine Gd.go (fun _ w_k => st23 _ w_k) ?_
        have xF24 := xS21.set W23
        have xN25 := Fr.snoc X23 xN18 gV
        have xO26 := Old.wr xO19 W23 gV
        have xK27 := Keep.wr xK20 W23 (Or.inl (List.mem_singleton.mpr rfl))
        show Gd _ _ _ _ (T23.setTop (mkF m 140 #[.val (.long i0), .second, .val (.int (Int32.ofNat k)), .val (.ref V), s4, s5, .val (.int (Int32.ofNat (w % 100))), .val (.int (Int32.ofNat (p - 1 - 1))), .val (.int (0 : Int32)), .val (.int (-(Int32.ofNat (w / 100)))), .val (.int (-(Int32.ofNat (w / 100))))] []))
        have xS28 : ArF Z h23 V .byte k (own_iv (own_up (own_up f (p - 1) (own_ones (w % 100))) (p - 1 - 1) (own_tens (w % 100)))) := by
          have q := xF24
          rw [own_ofC (by omega), own_upd (by unfold own_tens; omega)] at q
          exact q
        refine Gd.go (fun _ w_k => XS.goto X23.here hx rfl (pc0 := 140) (pc' := 86) rfl (hb hby d5_140) (by decide) (by decide) w_k) ?_
        show Gd _ _ _ _ (T23.setTop (mkF m 86 #[.val (.long i0), .second, .val (.int (Int32.ofNat k)), .val (.ref V), s4, s5, .val (.int (Int32.ofNat (w % 100))), .val (.int (Int32.ofNat (p - 1 - 1))), .val (.int (0 : Int32)), .val (.int (-(Int32.ofNat (w / 100)))), .val (.int (-(Int32.ofNat (w / 100))))] []))
        exact ih (w / 100) (p - 1 - 1) _ T23 h23 _ _ _ _ _ _ (Or.inr ⟨_, rfl⟩) (Or.inr ⟨_, rfl⟩) (by omega) (by omega) X23 e23 xS28 xK27 xO26 xN25 (own_inv_next I w100)
  have loop1 : ∀ (q w p : Nat) (f : Nat → Nat) (T : State) (h : Heap) (L : List Loc) (s4 s5 s6 : Slot), ((s4 = .unset ∧ s5 = .unset) ∨ ((∃ z : Int64, s4 = .val (.long z)) ∧ s5 = .second)) → (s6 = .unset ∨ ∃ z : Int32, s6 = .val (.int z)) → p ≤ q → w < 2 ^ 63 → Stand pg l ev ({ frames := 0, cells := 0, slots := 0, locals := 0 } : Room) s_ m #[(.long (Int64.ofNat n)), (.int (Int32.ofNat k)), (.ref V)] bl mt cd T L 0 0 → T.heap = h → ArF Z h V .byte k (own_iv f) → Keep h0 h [V] → Old Z n0 h → Fr n0 L → own_inv n k w p f → Gd pg.tables ev bl (Owes s_ 0 0 (fun r h L => (∃ v, r = some (.int v)) ∧ Keep h0 h [V] ∧ ArF Z h V .byte k (own_iv (own_dg n k)) ∧ Old Z n0 h ∧ Fr n0 L)) (T.setTop (mkF m 24 #[.val (.long (-(Int64.ofNat w))), .second, .val (.int (Int32.ofNat k)), .val (.ref V), s4, s5, s6, .val (.int (Int32.ofNat p)), .val (.int (0 : Int32)), .unset, .unset] [])) := by
    intro q
    induction q with
    | zero => intro w p f T h L s4 s5 s6 h4 h6 hq hw63 X eT FA K O N I; exact absurd I.1.1 (by omega)
    | succ q ih =>
      intro w p f T h L s4 s5 s6 h4 h6 hq hw63 X eT FA K O N I
      have pl := I.1
      have p1 := pl.1
      have p19 := pl.2.1
      have pk := I.2.2.1
      refine Gd.go (fun _ w_k => XS.lloadN X.here hx rfl (hb hby d5_24) rfl w_k) ?_
      show Gd _ _ _ _ (T.setTop (mkF m 25 #[.val (.long (-(Int64.ofNat w))), .second, .val (.int (Int32.ofNat k)), .val (.ref V), s4, s5, s6, .val (.int (Int32.ofNat p)), .val (.int (0 : Int32)), .unset, .unset] [(.long (-(Int64.ofNat w)))]))
      refine Gd.go (fun _ w_k => X.ldc2Long hx hown (mvT hZ (hw _ (List.mem_of_getElem? (i := 42) rfl))) (g := (mkF m 25 #[.val (.long (-(Int64.ofNat w))), .second, .val (.int (Int32.ofNat k)), .val (.ref V), s4, s5, s6, .val (.int (Int32.ofNat p)), .val (.int (0 : Int32)), .unset, .unset] [(.long (-(Int64.ofNat w)))])) rfl (hb hby d5_25) _ w_k) ?_
      show Gd _ _ _ _ (T.setTop (mkF m 28 #[.val (.long (-(Int64.ofNat w))), .second, .val (.int (Int32.ofNat k)), .val (.ref V), s4, s5, s6, .val (.int (Int32.ofNat p)), .val (.int (0 : Int32)), .unset, .unset] [(.long (-2147483648 : Int64)), (.long (-(Int64.ofNat w)))]))
      refine Gd.go (fun _ w_k => XS.lcmp X.here hx rfl (hb hby d5_28) rfl w_k) ?_
      show Gd _ _ _ _ (T.setTop (mkF m 29 #[.val (.long (-(Int64.ofNat w))), .second, .val (.int (Int32.ofNat k)), .val (.ref V), s4, s5, s6, .val (.int (Int32.ofNat p)), .val (.int (0 : Int32)), .unset, .unset] [(.int (lcmpW (-(Int64.ofNat w)) (-2147483648 : Int64)))]))
      by_cases w31 : w < 2 ^ 31
      · refine Gd.go (fun _ w_k => XS.ifYes X.here hx rfl (pc0 := 29) (pc' := 82) rfl (hb hby d5_29) rfl ((if0 _ _).trans (tlt ((lw_gt _ _).mpr ((own_lo hw63).mpr w31))).2.2.1) (by decide) (by decide) w_k) ?_
        show Gd _ _ _ _ (T.setTop (mkF m 82 #[.val (.long (-(Int64.ofNat w))), .second, .val (.int (Int32.ofNat k)), .val (.ref V), s4, s5, s6, .val (.int (Int32.ofNat p)), .val (.int (0 : Int32)), .unset, .unset] []))
        refine Gd.go (fun _ w_k => XS.lloadN X.here hx rfl (hb hby d5_82) rfl w_k) ?_
        show Gd _ _ _ _ (T.setTop (mkF m 83 #[.val (.long (-(Int64.ofNat w))), .second, .val (.int (Int32.ofNat k)), .val (.ref V), s4, s5, s6, .val (.int (Int32.ofNat p)), .val (.int (0 : Int32)), .unset, .unset] [(.long (-(Int64.ofNat w)))]))
        refine Gd.go (fun _ w_k => XS.l2i X.here hx rfl (hb hby d5_83) rfl w_k) ?_
        show Gd _ _ _ _ (T.setTop (mkF m 84 #[.val (.long (-(Int64.ofNat w))), .second, .val (.int (Int32.ofNat k)), .val (.ref V), s4, s5, s6, .val (.int (Int32.ofNat p)), .val (.int (0 : Int32)), .unset, .unset] [(.int ((-(Int64.ofNat w)).toInt32))]))
        rw [own_l2i w31]
        show Gd _ _ _ _ (T.setTop (mkF m 84 #[.val (.long (-(Int64.ofNat w))), .second, .val (.int (Int32.ofNat k)), .val (.ref V), s4, s5, s6, .val (.int (Int32.ofNat p)), .val (.int (0 : Int32)), .unset, .unset] [(.int (-(Int32.ofNat w)))]))
        refine Gd.go (fun _ w_k => XS.istore X.here hx rfl (hb hby d5_84) rfl (l' := #[.val (.long (-(Int64.ofNat w))), .second, .val (.int (Int32.ofNat k)), .val (.ref V), s4, s5, s6, .val (.int (Int32.ofNat p)), .val (.int (0 : Int32)), .unset, .val (.int (-(Int32.ofNat w)))]) rfl w_k) ?_
        show Gd _ _ _ _ (T.setTop (mkF m 86 #[.val (.long (-(Int64.ofNat w))), .second, .val (.int (Int32.ofNat k)), .val (.ref V), s4, s5, s6, .val (.int (Int32.ofNat p)), .val (.int (0 : Int32)), .unset, .val (.int (-(Int32.ofNat w)))] []))
        exact loop2 p w p f T h _ _ _ _ _ _ h6 (Or.inl rfl) (Nat.le_refl _) w31 X eT FA K O N I
      · refine Gd.go (fun _ w_k => XS.ifNo X.here hx rfl (hb hby d5_29) rfl ((if0 _ _).trans (flt (fun q => (fun q => w31 ((own_lo hw63).mp q)) ((lw_gt _ _).mp q))).2.2.1) w_k) ?_
        show Gd _ _ _ _ (T.setTop (mkF m 32 #[.val (.long (-(Int64.ofNat w))), .second, .val (.int (Int32.ofNat k)), .val (.ref V), s4, s5, s6, .val (.int (Int32.ofNat p)), .val (.int (0 : Int32)), .unset, .unset] []))
        have w100 : 100 ≤ w := Nat.le_of_not_lt fun q => w31 (Nat.lt_trans q (by decide))
        have p3 : ¬ p ≤ 2 := fun q => by have := (own_lenlt pl (j := 2) (by decide)).mpr q; omega
        refine Gd.go (fun _ w_k => XS.lloadN X.here hx rfl (hb hby d5_32) rfl w_k) ?_
        show Gd _ _ _ _ (T.setTop (mkF m 33 #[.val (.long (-(Int64.ofNat w))), .second, .val (.int (Int32.ofNat k)), .val (.ref V), s4, s5, s6, .val (.int (Int32.ofNat p)), .val (.int (0 : Int32)), .unset, .unset] [(.long (-(Int64.ofNat w)))]))
        refine Gd.go (fun _ w_k => X.ldc2Long hx hown (mvT hZ (hw _ (List.mem_of_getElem? (i := 203) rfl))) (g := (mkF m 33 #[.val (.long (-(Int64.ofNat w))), .second, .val (.int (Int32.ofNat k)), .val (.ref V), s4, s5, s6, .val (.int (Int32.ofNat p)), .val (.int (0 : Int32)), .unset, .unset] [(.long (-(Int64.ofNat w)))])) rfl (hb hby d5_33) _ w_k) ?_
        show Gd _ _ _ _ (T.setTop (mkF m 36 #[.val (.long (-(Int64.ofNat w))), .second, .val (.int (Int32.ofNat k)), .val (.ref V), s4, s5, s6, .val (.int (Int32.ofNat p)), .val (.int (0 : Int32)), .unset, .unset] [(.long (100 : Int64)), (.long (-(Int64.ofNat w)))]))
        refine Gd.go (fun _ w_k => XS.ldiv X.here hx rfl (hb hby d5_36) rfl (by decide) w_k) ?_
        show Gd _ _ _ _ (T.setTop (mkF m 37 #[.val (.long (-(Int64.ofNat w))), .second, .val (.int (Int32.ofNat k)), .val (.ref V), s4, s5, s6, .val (.int (Int32.ofNat p)), .val (.int (0 : Int32)), .unset, .unset] [(.long ((-(Int64.ofNat w)) / (100 : Int64)))]))
        rw [own_q hw63]
        show Gd _ _ _ _ (T.setTop (mkF m 37 #[.val (.long (-(Int64.ofNat w))), .second, .val (.int (Int32.ofNat k)), .val (.ref V), s4, s5, s6, .val (.int (Int32.ofNat p)), .val (.int (0 : Int32)), .unset, .unset] [(.long (-(Int64.ofNat (w / 100))))]))
        refine Gd.go (fun _ w_k => XS.lstore X.here hx rfl (hb hby d5_37) rfl (l' := #[.val (.long (-(Int64.ofNat w))), .second, .val (.int (Int32.ofNat k)), .val (.ref V), .val (.long (-(Int64.ofNat (w / 100)))), .second, s6, .val (.int (Int32.ofNat p)), .val (.int (0 : Int32)), .unset, .unset]) (by rcases h4 with ⟨rfl, rfl⟩ | ⟨⟨_, rfl⟩, rfl⟩ <;> rfl) w_k) ?_
        show Gd _ _ _ _ (T.setTop (mkF m 39 #[.val (.long (-(Int64.ofNat w))), .second, .val (.int (Int32.ofNat k)), .val (.ref V), .val (.long (-(Int64.ofNat (w / 100)))), .second, s6, .val (.int (Int32.ofNat p)), .val (.int (0 : Int32)), .unset, .unset] []))
        refine Gd.go (fun _ w_k => XS.lload X.here hx rfl (hb hby d5_39) rfl w_k) ?_
        show Gd _ _ _ _ (T.setTop (mkF m 41 #[.val (.long (-(Int64.ofNat w))), .second, .val (.int (Int32.ofNat k)), .val (.ref V), .val (.long (-(Int64.ofNat (w / 100)))), .second, s6, .val (.int (Int32.ofNat p)), .val (.int (0 : Int32)), .unset, .unset] [(.long (-(Int64.ofNat (w / 100))))]))
        refine Gd.go (fun _ w_k => X.ldc2Long hx hown (mvT hZ (hw _ (List.mem_of_getElem? (i := 203) rfl))) (g := (mkF m 41 #[.val (.long (-(Int64.ofNat w))), .second, .val (.int (Int32.ofNat k)), .val (.ref V), .val (.long (-(Int64.ofNat (w / 100)))), .second, s6, .val (.int (Int32.ofNat p)), .val (.int (0 : Int32)), .unset, .unset] [(.long (-(Int64.ofNat (w / 100))))])) rfl (hb hby d5_41) _ w_k) ?_
        show Gd _ _ _ _ (T.setTop (mkF m 44 #[.val (.long (-(Int64.ofNat w))), .second, .val (.int (Int32.ofNat k)), .val (.ref V), .val (.long (-(Int64.ofNat (w / 100)))), .second, s6, .val (.int (Int32.ofNat p)), .val (.int (0 : Int32)), .unset, .unset] [(.long (100 : Int64)), (.long (-(Int64.ofNat (w / 100))))]))
        refine Gd.go (fun _ w_k => XS.lmul X.here hx rfl (hb hby d5_44) rfl w_k) ?_
        show Gd _ _ _ _ (T.setTop (mkF m 45 #[.val (.long (-(Int64.ofNat w))), .second, .val (.int (Int32.ofNat k)), .val (.ref V), .val (.long (-(Int64.ofNat (w / 100)))), .second, s6, .val (.int (Int32.ofNat p)), .val (.int (0 : Int32)), .unset, .unset] [(.long ((-(Int64.ofNat (w / 100))) * (100 : Int64)))]))
        refine Gd.go (fun _ w_k => XS.lloadN X.here hx rfl (hb hby d5_45) rfl w_k) ?_
        show Gd _ _ _ _ (T.setTop (mkF m 46 #[.val (.long (-(Int64.ofNat w))), .second, .val (.int (Int32.ofNat k)), .val (.ref V), .val (.long (-(Int64.ofNat (w / 100)))), .second, s6, .val (.int (Int32.ofNat p)), .val (.int (0 : Int32)), .unset, .unset] [(.long (-(Int64.ofNat w))), (.long ((-(Int64.ofNat (w / 100))) * (100 : Int64)))]))
        refine Gd.go (fun _ w_k => XS.lsub X.here hx rfl (hb hby d5_46) rfl w_k) ?_
        show Gd _ _ _ _ (T.setTop (mkF m 47 #[.val (.long (-(Int64.ofNat w))), .second, .val (.int (Int32.ofNat k)), .val (.ref V), .val (.long (-(Int64.ofNat (w / 100)))), .second, s6, .val (.int (Int32.ofNat p)), .val (.int (0 : Int32)), .unset, .unset] [(.long (((-(Int64.ofNat (w / 100))) * (100 : Int64)) - (-(Int64.ofNat w))))]))
        refine Gd.go (fun _ w_k => XS.l2i X.here hx rfl (hb hby d5_47) rfl w_k) ?_
        show Gd _ _ _ _ (T.setTop (mkF m 48 #[.val (.long (-(Int64.ofNat w))), .second, .val (.int (Int32.ofNat k)), .val (.ref V), .val (.long (-(Int64.ofNat (w / 100)))), .second, s6, .val (.int (Int32.ofNat p)), .val (.int (0 : Int32)), .unset, .unset] [(.int ((((-(Int64.ofNat (w / 100))) * (100 : Int64)) - (-(Int64.ofNat w))).toInt32))]))
        rw [own_r hw63]
        show Gd _ _ _ _ (T.setTop (mkF m 48 #[.val (.long (-(Int64.ofNat w))), .second, .val (.int (Int32.ofNat k)), .val (.ref V), .val (.long (-(Int64.ofNat (w / 100)))), .second, s6, .val (.int (Int32.ofNat p)), .val (.int (0 : Int32)), .unset, .unset] [(.int (Int32.ofNat (w % 100)))]))
        refine Gd.go (fun _ w_k => XS.istore X.here hx rfl (hb hby d5_48) rfl (l' := #[.val (.long (-(Int64.ofNat w))), .second, .val (.int (Int32.ofNat k)), .val (.ref V), .val (.long (-(Int64.ofNat (w / 100)))), .second, .val (.int (Int32.ofNat (w % 100))), .val (.int (Int32.ofNat p)), .val (.int (0 : Int32)), .unset, .unset]) (by rcases h6 with rfl | ⟨_, rfl⟩ <;> rfl) w_k) ?_
        show Gd _ _ _ _ (T.setTop (mkF m 50 #[.val (.long (-(Int64.ofNat w))), .second, .val (.int (Int32.ofNat k)), .val (.ref V), .val (.long (-(Int64.ofNat (w / 100)))), .second, .val (.int (Int32.ofNat (w % 100))), .val (.int (Int32.ofNat p)), .val (.int (0 : Int32)), .unset, .unset] []))
        refine Gd.go (fun _ w_k => XS.lload X.here hx rfl (hb hby d5_50) rfl w_k) ?_
        show Gd _ _ _ _ (T.setTop (mkF m 52 #[.val (.long (-(Int64.ofNat w))), .second, .val (.int (Int32.ofNat k)), .val (.ref V), .val (.long (-(Int64.ofNat (w / 100)))), .second, .val (.int (Int32.ofNat (w % 100))), .val (.int (Int32.ofNat p)), .val (.int (0 : Int32)), .unset, .unset] [(.long (-(Int64.ofNat (w / 100))))]))
        refine Gd.go (fun _ w_k => XS.lstoreN X.here hx rfl (hb hby d5_52) rfl (l' := #[.val (.long (-(Int64.ofNat (w / 100)))), .second, .val (.int (Int32.ofNat k)), .val (.ref V), .val (.long (-(Int64.ofNat (w / 100)))), .second, .val (.int (Int32.ofNat (w % 100))), .val (.int (Int32.ofNat p)), .val (.int (0 : Int32)), .unset, .unset]) rfl w_k) ?_
        show Gd _ _ _ _ (T.setTop (mkF m 53 #[.val (.long (-(Int64.ofNat (w / 100)))), .second, .val (.int (Int32.ofNat k)), .val (.ref V), .val (.long (-(Int64.ofNat (w / 100)))), .second, .val (.int (Int32.ofNat (w % 100))), .val (.int (Int32.ofNat p)), .val (.int (0 : Int32)), .unset, .unset] []))
        refine Gd.go (fun _ w_k => XS.aloadN X.here hx rfl (hb hby d5_53) rfl rfl w_k) ?_
        show Gd _ _ _ _ (T.setTop (mkF m 54 #[.val (.long (-(Int64.ofNat (w / 100)))), .second, .val (.int (Int32.ofNat k)), .val (.ref V), .val (.long (-(Int64.ofNat (w / 100)))), .second, .val (.int (Int32.ofNat (w % 100))), .val (.int (Int32.ofNat p)), .val (.int (0 : Int32)), .unset, .unset] [(.ref V)]))
        refine Gd.go (fun _ w_k => XS.iinc X.here hx rfl (hb hby d5_54) rfl (l' := #[.val (.long (-(Int64.ofNat (w / 100)))), .second, .val (.int (Int32.ofNat k)), .val (.ref V), .val (.long (-(Int64.ofNat (w / 100)))), .second, .val (.int (Int32.ofNat (w % 100))), .val (.int ((Int32.ofNat p) + (-1 : Int32))), .val (.int (0 : Int32)), .unset, .unset]) rfl w_k) ?_
        show Gd _ _ _ _ (T.setTop (mkF m 57 #[.val (.long (-(Int64.ofNat (w / 100)))), .second, .val (.int (Int32.ofNat k)), .val (.ref V), .val (.long (-(Int64.ofNat (w / 100)))), .second, .val (.int (Int32.ofNat (w % 100))), .val (.int ((Int32.ofNat p) + (-1 : Int32))), .val (.int (0 : Int32)), .unset, .unset] [(.ref V)]))
        rw [own_dec (p := p) (by omega)]
        show Gd _ _ _ _ (T.setTop (mkF m 57 #[.val (.long (-(Int64.ofNat (w / 100)))), .second, .val (.int (Int32.ofNat k)), .val (.ref V), .val (.long (-(Int64.ofNat (w / 100)))), .second, .val (.int (Int32.ofNat (w % 100))), .val (.int (Int32.ofNat (p - 1))), .val (.int (0 : Int32)), .unset, .unset] [(.ref V)]))
        refine Gd.go (fun _ w_k => XS.iload X.here hx rfl (hb hby d5_57) rfl w_k) ?_
        show Gd _ _ _ _ (T.setTop (mkF m 59 #[.val (.long (-(Int64.ofNat (w / 100)))), .second, .val (.int (Int32.ofNat k)), .val (.ref V), .val (.long (-(Int64.ofNat (w / 100)))), .second, .val (.int (Int32.ofNat (w % 100))), .val (.int (Int32.ofNat (p - 1))), .val (.int (0 : Int32)), .unset, .unset] [(.int (Int32.ofNat (p - 1))), (.ref V)]))
        obtain ⟨T29, X29, e29, st29⟩ := getS2 X hx hZ hown (host := "") (Or.inl (hw _ (List.mem_of_getElem? (i := 43) rfl))) Via.refl eT (G.2.2.2.2.2.2.1.ext O.2) (g := (mkF m 59 #[.val (.long (-(Int64.ofNat (w / 100)))), .second, .val (.int (Int32.ofNat k)), .val (.ref V), .val (.long (-(Int64.ofNat (w / 100)))), .second, .val (.int (Int32.ofNat (w % 100))), .val (.int (Int32.ofNat (p - 1))), .val (.int (0 : Int32)), .unset, .unset] [(.int (Int32.ofNat (p - 1))), (.ref V)])) rfl (hb hby d5_59)
        refine Gd.go (fun _ w_k => st29 _ w_k) ?_
        show Gd _ _ _ _ (T29.setTop (mkF m 62 #[.val (.long (-(Int64.ofNat (w / 100)))), .second, .val (.int (Int32.ofNat k)), .val (.ref V), .val (.long (-(Int64.ofNat (w / 100)))), .second, .val (.int (Int32.ofNat (w % 100))), .val (.int (Int32.ofNat (p - 1))), .val (.int (0 : Int32)), .unset, .unset] [(.ref d1), (.int (Int32.ofNat (p - 1))), (.ref V)]))
        refine Gd.go (fun _ w_k => XS.iload X29.here hx rfl (hb hby d5_62) rfl w_k) ?_
        show Gd _ _ _ _ (T29.setTop (mkF m 64 #[.val (.long (-(Int64.ofNat (w / 100)))), .second, .val (.int (Int32.ofNat k)), .val (.ref V), .val (.long (-(Int64.ofNat (w / 100)))), .second, .val (.int (Int32.ofNat (w % 100))), .val (.int (Int32.ofNat (p - 1))), .val (.int (0 : Int32)), .unset, .unset] [(.int (Int32.ofNat (w % 100))), (.ref d1), (.int (Int32.ofNat (p - 1))), (.ref V)]))
        refine Gd.go (fun _ w_k => own_ldB X29 hx hZ e29 (G.2.2.2.2.2.2.2.1.ext O.2) (j := (Int32.ofNat (w % 100))) (by rw [own_ofN (by omega)]; omega) (by rw [own_ofN (by omega)]; omega) (v := (.int (Int32.ofNat (own_ones (w % 100))))) (by rw [own_ofC (by omega)]; rfl) (g := (mkF m 64 #[.val (.long (-(Int64.ofNat (w / 100)))), .second, .val (.int (Int32.ofNat k)), .val (.ref V), .val (.long (-(Int64.ofNat (w / 100)))), .second, .val (.int (Int32.ofNat (w % 100))), .val (.int (Int32.ofNat (p - 1))), .val (.int (0 : Int32)), .unset, .unset] [(.int (Int32.ofNat (w % 100))), (.ref d1), (.int (Int32.ofNat (p - 1))), (.ref V)])) rfl rfl (hb hby d5_64) _ w_k) ?_
        show Gd _ _ _ _ (T29.setTop (mkF m 65 #[.val (.long (-(Int64.ofNat (w / 100)))), .second, .val (.int (Int32.ofNat k)), .val (.ref V), .val (.long (-(Int64.ofNat (w / 100)))), .second, .val (.int (Int32.ofNat (w % 100))), .val (.int (Int32.ofNat (p - 1))), .val (.int (0 : Int32)), .unset, .unset] [(.int (Int32.ofNat (own_ones (w % 100)))), (.int (Int32.ofNat (p - 1))), (.ref V)]))
        obtain ⟨T30, h30, X30, e30, W30, st30⟩ := own_stB X29 hx hZ e29 FA (j := (Int32.ofNat (p - 1))) (by rw [own_ofN (by omega)]; omega) (by rw [own_ofN (by omega)]; omega) (g := (mkF m 65 #[.val (.long (-(Int64.ofNat (w / 100)))), .second, .val (.int (Int32.ofNat k)), .val (.ref V), .val (.long (-(Int64.ofNat (w / 100)))), .second, .val (.int (Int32.ofNat (w % 100))), .val (.int (Int32.ofNat (p - 1))), .val (.int (0 : Int32)), .unset, .unset] [(.int (Int32.ofNat (own_ones (w % 100)))), (.int (Int32.ofNat (p - 1))), (.ref V)])) rfl rfl (hb hby d5_65)
        refine Gd.go (fun _ w_k => st30 _ w_k) ?_
        have xF31 := FA.set W30
        have xN32 := Fr.snoc X30 N gV
        have xO33 := Old.wr O W30 gV
        have xK34 := Keep.wr K W30 (Or.inl (List.mem_singleton.mpr rfl))
        show Gd _ _ _ _ (T30.setTop (mkF m 66 #[.val (.long (-(Int64.ofNat (w / 100)))), .second, .val (.int (Int32.ofNat k)), .val (.ref V), .val (.long (-(Int64.ofNat (w / 100)))), .second, .val (.int (Int32.ofNat (w % 100))), .val (.int (Int32.ofNat (p - 1))), .val (.int (0 : Int32)), .unset, .unset] []))
        have xS35 : ArF Z h30 V .byte k (own_iv (own_up f (p - 1) (own_ones (w % 100)))) := by
          have q := xF31
          rw [own_ofC (by omega), own_upd (by unfold own_ones; omega)] at q
          exact q
        refine Gd.go (fun _ w_k => XS.aloadN X30.here hx rfl (hb hby d5_66) rfl rfl w_k) ?_
        show Gd _ _ _ _ (T30.setTop (mkF m 67 #[.val (.long (-(Int64.ofNat (w / 100)))), .second, .val (.int (Int32.ofNat k)), .val (.ref V), .val (.long (-(Int64.ofNat (w / 100)))), .second, .val (.int (Int32.ofNat (w % 100))), .val (.int (Int32.ofNat (p - 1))), .val (.int (0 : Int32)), .unset, .unset] [(.ref V)]))
        refine Gd.go (fun _ w_k => XS.iinc X30.here hx rfl (hb hby d5_67) rfl (l' := #[.val (.long (-(Int64.ofNat (w / 100)))), .second, .val (.int (Int32.ofNat k)), .val (.ref V), .val (.long (-(Int64.ofNat (w / 100)))), .second, .val (.int (Int32.ofNat (w % 100))), .val (.int ((Int32.ofNat (p - 1)) + (-1 : Int32))), .val (.int (0 : Int32)), .unset, .unset]) rfl w_k) ?_
        show Gd _ _ _ _ (T30.setTop (mkF m 70 #[.val (.long (-(Int64.ofNat (w / 100)))), .second, .val (.int (Int32.ofNat k)), .val (.ref V), .val (.long (-(Int64.ofNat (w / 100)))), .second, .val (.int (Int32.ofNat (w % 100))), .val (.int ((Int32.ofNat (p - 1)) + (-1 : Int32))), .val (.int (0 : Int32)), .unset, .unset] [(.ref V)]))
        rw [own_dec (p := p - 1) (by omega)]
        show Gd _ _ _ _ (T30.setTop (mkF m 70 #[.val (.long (-(Int64.ofNat (w / 100)))), .second, .val (.int (Int32.ofNat k)), .val (.ref V), .val (.long (-(Int64.ofNat (w / 100)))), .second, .val (.int (Int32.ofNat (w % 100))), .val (.int (Int32.ofNat (p - 1 - 1))), .val (.int (0 : Int32)), .unset, .unset] [(.ref V)]))
        refine Gd.go (fun _ w_k => XS.iload X30.here hx rfl (hb hby d5_70) rfl w_k) ?_
        show Gd _ _ _ _ (T30.setTop (mkF m 72 #[.val (.long (-(Int64.ofNat (w / 100)))), .second, .val (.int (Int32.ofNat k)), .val (.ref V), .val (.long (-(Int64.ofNat (w / 100)))), .second, .val (.int (Int32.ofNat (w % 100))), .val (.int (Int32.ofNat (p - 1 - 1))), .val (.int (0 : Int32)), .unset, .unset] [(.int (Int32.ofNat (p - 1 - 1))), (.ref V)]))
        obtain ⟨T36, X36, e36, st36⟩ := getS2 X30 hx hZ hown (host := "") (Or.inl (hw _ (List.mem_of_getElem? (i := 204) rfl))) Via.refl e30 (G.2.2.2.2.2.2.2.2.1.ext xO33.2) (g := (mkF m 72 #[.val (.long (-(Int64.ofNat (w / 100)))), .second, .val (.int (Int32.ofNat k)), .val (.ref V), .val (.long (-(Int64.ofNat (w / 100)))), .second, .val (.int (Int32.ofNat (w % 100))), .val (.int (Int32.ofNat (p - 1 - 1))), .val (.int (0 : Int32)), .unset, .unset] [(.int (Int32.ofNat (p - 1 - 1))), (.ref V)])) rfl (hb hby d5_72)
        refine Gd.go (fun _ w_k => st36 _ w_k) ?_
        show Gd _ _ _ _ (T36.setTop (mkF m 75 #[.val (.long (-(Int64.ofNat (w / 100)))), .second, .val (.int (Int32.ofNat k)), .val (.ref V), .val (.long (-(Int64.ofNat (w / 100)))), .second, .val (.int (Int32.ofNat (w % 100))), .val (.int (Int32.ofNat (p - 1 - 1))), .val (.int (0 : Int32)), .unset, .unset] [(.ref d2), (.int (Int32.ofNat (p - 1 - 1))), (.ref V)]))
        refine Gd.go (fun _ w_k => XS.iload X36.here hx rfl (hb hby d5_75) rfl w_k) ?_
        show Gd _ _ _ _ (T36.setTop (mkF m 77 #[.val (.long (-(Int64.ofNat (w / 100)))), .second, .val (.int (Int32.ofNat k)), .val (.ref V), .val (.long (-(Int64.ofNat (w / 100)))), .second, .val (.int (Int32.ofNat (w % 100))), .val (.int (Int32.ofNat (p - 1 - 1))), .val (.int (0 : Int32)), .unset, .unset] [(.int (Int32.ofNat (w % 100))), (.ref d2), (.int (Int32.ofNat (p - 1 - 1))), (.ref V)]))
        refine Gd.go (fun _ w_k => own_ldB X36 hx hZ e36 (G.2.2.2.2.2.2.2.2.2.ext xO33.2) (j := (Int32.ofNat (w % 100))) (by rw [own_ofN (by omega)]; omega) (by rw [own_ofN (by omega)]; omega) (v := (.int (Int32.ofNat (own_tens (w % 100))))) (by rw [own_ofC (by omega)]; rfl) (g := (mkF m 77 #[.val (.long (-(Int64.ofNat (w / 100)))), .second, .val (.int (Int32.ofNat k)), .val (.ref V), .val (.long (-(Int64.ofNat (w / 100)))), .second, .val (.int (Int32.ofNat (w % 100))), .val (.int (Int32.ofNat (p - 1 - 1))), .val (.int (0 : Int32)), .unset, .unset] [(.int (Int32.ofNat (w % 100))), (.ref d2), (.int (Int32.ofNat (p - 1 - 1))), (.ref V)])) rfl rfl (hb hby d5_77) _ w_k) ?_
        show Gd _ _ _ _ (T36.setTop (mkF m 78 #[.val (.long (-(Int64.ofNat (w / 100)))), .second, .val (.int (Int32.ofNat k)), .val (.ref V), .val (.long (-(Int64.ofNat (w / 100)))), .second, .val (.int (Int32.ofNat (w % 100))), .val (.int (Int32.ofNat (p - 1 - 1))), .val (.int (0 : Int32)), .unset, .unset] [(.int (Int32.ofNat (own_tens (w % 100)))), (.int (Int32.ofNat (p - 1 - 1))), (.ref V)]))
        obtain ⟨T37, h37, X37, e37, W37, st37⟩ := own_stB X36 hx hZ e36 xS35 (j := (Int32.ofNat (p - 1 - 1))) (by rw [own_ofN (by omega)]; omega) (by rw [own_ofN (by omega)]; omega) (g := (mkF m 78 #[.val (.long (-(Int64.ofNat (w / 100)))), .second, .val (.int (Int32.ofNat k)), .val (.ref V), .val (.long (-(Int64.ofNat (w / 100)))), .second, .val (.int (Int32.ofNat (w % 100))), .val (.int (Int32.ofNat (p - 1 - 1))), .val (.int (0 : Int32)), .unset, .unset] [(.int (Int32.ofNat (own_tens (w % 100)))), (.int (Int32.ofNat (p - 1 - 1))), (.ref V)])) rfl rfl (hb hby d5_78)
        refine Gd.go (fun _ w_k => st37 _ w_k) ?_
        have xF38 := xS35.set W37
        have xN39 := Fr.snoc X37 xN32 gV
        have xO40 := Old.wr xO33 W37 gV
        have xK41 := Keep.wr xK34 W37 (Or.inl (List.mem_singleton.mpr rfl))
        show Gd _ _ _ _ (T37.setTop (mkF m 79 #[.val (.long (-(Int64.ofNat (w / 100)))), .second, .val (.int (Int32.ofNat k)), .val (.ref V), .val (.long (-(Int64.ofNat (w / 100)))), .second, .val (.int (Int32.ofNat (w % 100))), .val (.int (Int32.ofNat (p - 1 - 1))), .val (.int (0 : Int32)), .unset, .unset] []))
        have xS42 : ArF Z h37 V .byte k (own_iv (own_up (own_up f (p - 1) (own_ones (w % 100))) (p - 1 - 1) (own_tens (w % 100)))) := by
          have q := xF38
          rw [own_ofC (by omega), own_upd (by unfold own_tens; omega)] at q
          exact q
        refine Gd.go (fun _ w_k => XS.goto X37.here hx rfl (pc0 := 79) (pc' := 24) rfl (hb hby d5_79) (by decide) (by decide) w_k) ?_
        show Gd _ _ _ _ (T37.setTop (mkF m 24 #[.val (.long (-(Int64.ofNat (w / 100)))), .second, .val (.int (Int32.ofNat k)), .val (.ref V), .val (.long (-(Int64.ofNat (w / 100)))), .second, .val (.int (Int32.ofNat (w % 100))), .val (.int (Int32.ofNat (p - 1 - 1))), .val (.int (0 : Int32)), .unset, .unset] []))
        exact ih (w / 100) (p - 1 - 1) _ T37 h37 _ _ _ _ (Or.inr ⟨⟨_, rfl⟩, rfl⟩) (Or.inr ⟨_, rfl⟩) (by omega) (by omega) X37 e37 xS42 xK41 xO40 xN39 (own_inv_next I w100)
  refine Gd.go (fun _ w_k => XS.iloadN X0.here hx rfl (hb hby d5_0) rfl w_k) ?_
  show Gd _ _ _ _ (s₁.setTop (mkF m 1 #[.val (.long (Int64.ofNat n)), .second, .val (.int (Int32.ofNat k)), .val (.ref V), .unset, .unset, .unset, .unset, .unset, .unset, .unset] [(.int (Int32.ofNat k))]))
  refine Gd.go (fun _ w_k => XS.istore X0.here hx rfl (hb hby d5_1) rfl (l' := #[.val (.long (Int64.ofNat n)), .second, .val (.int (Int32.ofNat k)), .val (.ref V), .unset, .unset, .unset, .val (.int (Int32.ofNat k)), .unset, .unset, .unset]) rfl w_k) ?_
  show Gd _ _ _ _ (s₁.setTop (mkF m 3 #[.val (.long (Int64.ofNat n)), .second, .val (.int (Int32.ofNat k)), .val (.ref V), .unset, .unset, .unset, .val (.int (Int32.ofNat k)), .unset, .unset, .unset] []))
  refine Gd.go (fun _ w_k => XS.lloadN X0.here hx rfl (hb hby d5_3) rfl w_k) ?_
  show Gd _ _ _ _ (s₁.setTop (mkF m 4 #[.val (.long (Int64.ofNat n)), .second, .val (.int (Int32.ofNat k)), .val (.ref V), .unset, .unset, .unset, .val (.int (Int32.ofNat k)), .unset, .unset, .unset] [(.long (Int64.ofNat n))]))
  refine Gd.go (fun _ w_k => XS.lconst X0.here hx rfl (hb hby d5_4) w_k) ?_
  show Gd _ _ _ _ (s₁.setTop (mkF m 5 #[.val (.long (Int64.ofNat n)), .second, .val (.int (Int32.ofNat k)), .val (.ref V), .unset, .unset, .unset, .val (.int (Int32.ofNat k)), .unset, .unset, .unset] [(.long (0 : Int64)), (.long (Int64.ofNat n))]))
  refine Gd.go (fun _ w_k => XS.lcmp X0.here hx rfl (hb hby d5_5) rfl w_k) ?_
  show Gd _ _ _ _ (s₁.setTop (mkF m 6 #[.val (.long (Int64.ofNat n)), .second, .val (.int (Int32.ofNat k)), .val (.ref V), .unset, .unset, .unset, .val (.int (Int32.ofNat k)), .unset, .unset, .unset] [(.int (lcmpW (Int64.ofNat n) (0 : Int64)))]))
  refine Gd.go (fun _ w_k => XS.ifYes X0.here hx rfl (pc0 := 6) (pc' := 13) rfl (hb hby d5_6) rfl ((if0 _ _).trans (flt (fun q => (own_lt0 hn) ((lw_lt _ _).mp q))).2.1) (by decide) (by decide) w_k) ?_
  show Gd _ _ _ _ (s₁.setTop (mkF m 13 #[.val (.long (Int64.ofNat n)), .second, .val (.int (Int32.ofNat k)), .val (.ref V), .unset, .unset, .unset, .val (.int (Int32.ofNat k)), .unset, .unset, .unset] []))
  refine Gd.go (fun _ w_k => XS.iconst X0.here hx rfl (hb hby d5_13) w_k) ?_
  show Gd _ _ _ _ (s₁.setTop (mkF m 14 #[.val (.long (Int64.ofNat n)), .second, .val (.int (Int32.ofNat k)), .val (.ref V), .unset, .unset, .unset, .val (.int (Int32.ofNat k)), .unset, .unset, .unset] [(.int (0 : Int32))]))
  refine Gd.go (fun _ w_k => XS.istore X0.here hx rfl (hb hby d5_14) rfl (l' := #[.val (.long (Int64.ofNat n)), .second, .val (.int (Int32.ofNat k)), .val (.ref V), .unset, .unset, .unset, .val (.int (Int32.ofNat k)), .val (.int (0 : Int32)), .unset, .unset]) rfl w_k) ?_
  show Gd _ _ _ _ (s₁.setTop (mkF m 16 #[.val (.long (Int64.ofNat n)), .second, .val (.int (Int32.ofNat k)), .val (.ref V), .unset, .unset, .unset, .val (.int (Int32.ofNat k)), .val (.int (0 : Int32)), .unset, .unset] []))
  refine Gd.go (fun _ w_k => XS.iload X0.here hx rfl (hb hby d5_16) rfl w_k) ?_
  show Gd _ _ _ _ (s₁.setTop (mkF m 18 #[.val (.long (Int64.ofNat n)), .second, .val (.int (Int32.ofNat k)), .val (.ref V), .unset, .unset, .unset, .val (.int (Int32.ofNat k)), .val (.int (0 : Int32)), .unset, .unset] [(.int (0 : Int32))]))
  refine Gd.go (fun _ w_k => XS.ifNo X0.here hx rfl (hb hby d5_18) rfl ((if0 _ _).trans (teq (by decide)).2) w_k) ?_
  show Gd _ _ _ _ (s₁.setTop (mkF m 21 #[.val (.long (Int64.ofNat n)), .second, .val (.int (Int32.ofNat k)), .val (.ref V), .unset, .unset, .unset, .val (.int (Int32.ofNat k)), .val (.int (0 : Int32)), .unset, .unset] []))
  refine Gd.go (fun _ w_k => XS.lloadN X0.here hx rfl (hb hby d5_21) rfl w_k) ?_
  show Gd _ _ _ _ (s₁.setTop (mkF m 22 #[.val (.long (Int64.ofNat n)), .second, .val (.int (Int32.ofNat k)), .val (.ref V), .unset, .unset, .unset, .val (.int (Int32.ofNat k)), .val (.int (0 : Int32)), .unset, .unset] [(.long (Int64.ofNat n))]))
  refine Gd.go (fun _ w_k => XS.lneg X0.here hx rfl (hb hby d5_22) rfl w_k) ?_
  show Gd _ _ _ _ (s₁.setTop (mkF m 23 #[.val (.long (Int64.ofNat n)), .second, .val (.int (Int32.ofNat k)), .val (.ref V), .unset, .unset, .unset, .val (.int (Int32.ofNat k)), .val (.int (0 : Int32)), .unset, .unset] [(.long (-(Int64.ofNat n)))]))
  refine Gd.go (fun _ w_k => XS.lstoreN X0.here hx rfl (hb hby d5_23) rfl (l' := #[.val (.long (-(Int64.ofNat n))), .second, .val (.int (Int32.ofNat k)), .val (.ref V), .unset, .unset, .unset, .val (.int (Int32.ofNat k)), .val (.int (0 : Int32)), .unset, .unset]) rfl w_k) ?_
  show Gd _ _ _ _ (s₁.setTop (mkF m 24 #[.val (.long (-(Int64.ofNat n))), .second, .val (.int (Int32.ofNat k)), .val (.ref V), .unset, .unset, .unset, .val (.int (Int32.ofNat k)), .val (.int (0 : Int32)), .unset, .unset] []))
  exact loop1 k n k f0 s₁ h0 _ _ _ _ (Or.inl ⟨rfl, rfl⟩) (Or.inl rfl) (Nat.le_refl _) hn X0 e0 A0 (Keep.refl h0 [V]) O0 (Fr.nil n0) ⟨hk, by simp, Nat.le_refl _, fun i h1 h2 => absurd h2 (by omega), fb0⟩
theorem own_pn32 : plainFor (⟨"java/lang/Long", "toString", "(J)Ljava/lang/String;"⟩ : MethodName) = true := by first | exact plainFor_of_name (by first | (simp [plainName, overriddenIn, x]; done) | decide +kernel) | decide +kernel
theorem ef_3 (m : MethodId) (q0 : Int64) : entryFrame m #[(.long q0)] 4 = mkF m 0 #[.val (.long q0), .second, .unset, .unset] [] := by first | (simp [entryFrame, mkF, argsToLocals, Value.category, maxLocals]; done) | rfl
theorem d3_0 : decode jdk_35_method_12_code 0 = .ok (.lload_n 0, 1) := by decide +kernel
theorem own_pd17 : parseMethodDescriptor "(J)I" = some ⟨[.long], some .int⟩ := by decide +kernel
theorem d3_1 : decode jdk_35_method_12_code 1 = .ok (.invokestatic 118, 3) := by decide +kernel
theorem d3_4 : decode jdk_35_method_12_code 4 = .ok (.istore_n 2, 1) := by decide +kernel
theorem d3_5 : decode jdk_35_method_12_code 5 = .ok (.getstatic 13, 3) := by decide +kernel
theorem d3_8 : decode jdk_35_method_12_code 8 = .ok (.ifCond .eq 24, 3) := by decide +kernel
theorem d3_11 : decode jdk_35_method_12_code 11 = .ok (.iload_n 2, 1) := by decide +kernel
theorem d3_12 : decode jdk_35_method_12_code 12 = .ok (.newarray .byte, 2) := by decide +kernel
theorem d3_14 : decode jdk_35_method_12_code 14 = .ok (.astore_n 3, 1) := by decide +kernel
theorem d3_15 : decode jdk_35_method_12_code 15 = .ok (.lload_n 0, 1) := by decide +kernel
theorem d3_16 : decode jdk_35_method_12_code 16 = .ok (.iload_n 2, 1) := by decide +kernel
theorem d3_17 : decode jdk_35_method_12_code 17 = .ok (.aload_n 3, 1) := by decide +kernel
theorem own_pd18 : parseMethodDescriptor "(JI[B)I" = some ⟨[.long, .int, (.array .byte)], some .int⟩ := by decide +kernel
theorem d3_18 : decode jdk_35_method_12_code 18 = .ok (.invokestatic 121, 3) := by decide +kernel
theorem d3_21 : decode jdk_35_method_12_code 21 = .ok (.pop, 1) := by decide +kernel
theorem d3_22 : decode jdk_35_method_12_code 22 = .ok (.new 5, 3) := by decide +kernel
theorem d3_25 : decode jdk_35_method_12_code 25 = .ok (.dup, 1) := by decide +kernel
theorem d3_26 : decode jdk_35_method_12_code 26 = .ok (.aload_n 3, 1) := by decide +kernel
theorem d3_27 : decode jdk_35_method_12_code 27 = .ok (.iconst 0, 1) := by decide +kernel
theorem own_pd19 : parseMethodDescriptor "([BB)V" = some ⟨[(.array .byte), .byte], none⟩ := by decide +kernel
theorem d3_28 : decode jdk_35_method_12_code 28 = .ok (.invokespecial 112, 3) := by decide +kernel
theorem d3_31 : decode jdk_35_method_12_code 31 = .ok (.areturn, 1) := by decide +kernel
set_option maxRecDepth 65536 in
set_option maxHeartbeats 40000000 in
theorem own_c3 (l : Launch) (Z : State) (a0 : Array Value) (hw : ∀ d ∈ tables_1, d.before a0 Z = true) (cs : Int32) (fv gv : Value) (d1 d2 : Addr) (G : own_G Z cs fv gv d1 d2) (h0 : Heap) (n0 : Nat) (O0 : Old Z n0 h0) (Z0 : n0 ≤ h0.size) (n k : Nat) (hn : n < 2 ^ 63) (hk : own_dl n k) :
    Con l Z (⟨"java/lang/Long", "toString", "(J)Ljava/lang/String;"⟩ : MethodName) jdk_35_method_12_code 4 (some (.object "java/lang/String")) [] ({ frames := 2, cells := 2, slots := 23, locals := 27 } : Room) 2 23 #[(.long (Int64.ofNat n))] h0 (fun r h L => ∃ t V, r = some (.ref t) ∧ h0.size ≤ t ∧ h0.size ≤ V ∧ Keep h0 h [] ∧ own_T Z h t V n0 k (own_dg n k) ∧ Old Z n0 h ∧ Fr n0 L) := by
  refine Con.of own_pn32 ?_
  intro pg ev s_ m bl mt cd s₁ hx hby hml hown hnm hret hlk hZ X0 e0
  rw [ef_3]
  show Gd _ _ _ _ (s₁.setTop (mkF m 0 #[.val (.long (Int64.ofNat n)), .second, .unset, .unset] []))
  have k19 := hk.2.1
  have k1 := hk.1
  have ec1 := own_ofN (n := k) (by omega)
  have ec2 := own_ofC (n := k) (by omega)
  have z0 : (0 : Int32).toInt = 0 := rfl
  have N0 := Fr.nil n0
  have K0 := Keep.refl h0 []
  refine Gd.go (fun _ w_k => XS.lloadN X0.here hx rfl (hb hby d3_0) rfl w_k) ?_
  show Gd _ _ _ _ (s₁.setTop (mkF m 1 #[.val (.long (Int64.ofNat n)), .second, .unset, .unset] [(.long (Int64.ofNat n))]))
  obtain ⟨T1, X1, e1, st1⟩ := own_callSP X0 hx hZ (y := (⟨"java/lang/Long", "stringSize", "(J)I"⟩ : MethodName)) hown (hw _ (List.mem_of_getElem? (i := 32) rfl)) (hw _ (List.mem_of_getElem? (i := 33) rfl)) (hw _ (List.mem_of_getElem? (i := 30) rfl)) (hw _ (List.mem_of_getElem? (i := 34) rfl)) (by decide) (W := 0) (own_c4 l Z a0 hw n k hn hk h0) rfl rfl e0 (by decide) (by decide) (g := (mkF m 1 #[.val (.long (Int64.ofNat n)), .second, .unset, .unset] [(.long (Int64.ofNat n))])) rfl (by rw [hml]; rfl) (argsL := [(.long (Int64.ofNat n))]) (rest := []) (lenOf own_pd17 rfl) rfl (Nat.le_of_eq rfl) (hb hby d3_1) rfl
  refine Gd.go (fun _ w_k => st1 _ w_k) ?_
  show Gd _ _ _ _ (T1.setTop (mkF m 4 #[.val (.long (Int64.ofNat n)), .second, .unset, .unset] [(.int (Int32.ofNat k))]))
  refine Gd.go (fun _ w_k => XS.istoreN X1.here hx rfl (hb hby d3_4) rfl (l' := #[.val (.long (Int64.ofNat n)), .second, .val (.int (Int32.ofNat k)), .unset]) rfl w_k) ?_
  show Gd _ _ _ _ (T1.setTop (mkF m 5 #[.val (.long (Int64.ofNat n)), .second, .val (.int (Int32.ofNat k)), .unset] []))
  obtain ⟨T2, X2, e2, st2⟩ := getS2 X1 hx hZ hown (host := "") (Or.inl (hw _ (List.mem_of_getElem? (i := 36) rfl))) Via.refl e1 (G.2.1.ext O0.2) (g := (mkF m 5 #[.val (.long (Int64.ofNat n)), .second, .val (.int (Int32.ofNat k)), .unset] [])) rfl (hb hby d3_5)
  refine Gd.go (fun _ w_k => st2 _ w_k) ?_
  show Gd _ _ _ _ (T2.setTop (mkF m 8 #[.val (.long (Int64.ofNat n)), .second, .val (.int (Int32.ofNat k)), .unset] [(.int cs)]))
  refine Gd.go (fun _ w_k => XS.ifNo X2.here hx rfl (hb hby d3_8) rfl ((if0 _ _).trans (feq G.1).1) w_k) ?_
  show Gd _ _ _ _ (T2.setTop (mkF m 11 #[.val (.long (Int64.ofNat n)), .second, .val (.int (Int32.ofNat k)), .unset] []))
  refine Gd.go (fun _ w_k => XS.iloadN X2.here hx rfl (hb hby d3_11) rfl w_k) ?_
  show Gd _ _ _ _ (T2.setTop (mkF m 12 #[.val (.long (Int64.ofNat n)), .second, .val (.int (Int32.ofNat k)), .unset] [(.int (Int32.ofNat k))]))
  obtain ⟨T3, h3, k3, X3, e3, E3, A3, Ax3, st3⟩ := newPE X2 hx hZ (hw _ (List.mem_of_getElem? (i := 38) rfl)) e2 (g := (mkF m 12 #[.val (.long (Int64.ofNat n)), .second, .val (.int (Int32.ofNat k)), .unset] [(.int (Int32.ofNat k))])) rfl (hb hby d3_12) rfl (by rw [Int32.lt_iff_toInt_lt]; omega) (cap := 19) (by omega) (by decide) (by decide) (by decide) (ad := "[B") (by decide)
  obtain ⟨b3, g3⟩ : ∃ z, z = h0.size := ⟨_, rfl⟩
  rw [← g3] at A3 st3 Ax3
  have n0_b3 : n0 ≤ b3 := Nat.le_trans Z0 (Nat.le_of_eq g3.symm)
  have kn_b3 : h0.size ≤ b3 := Nat.le_trans K0.1 (Nat.le_of_eq g3.symm)
  have xO4 := Old.ext O0 E3
  have xZs5 := Nat.le_trans Z0 E3.1
  have xK6 := Keep.ext K0 E3
  have xF7 : ArF Z h3 b3 .byte ((Int32.ofNat k)).toNatClampNeg (fun _ => (.int (0 : Int32))) := own_new (h := h0) A3 (by rw [Int32.lt_iff_toInt_lt]; omega)
  refine Gd.go (fun _ w_k => st3 _ w_k) ?_
  show Gd _ _ _ _ (T3.setTop (mkF m 14 #[.val (.long (Int64.ofNat n)), .second, .val (.int (Int32.ofNat k)), .unset] [(.ref b3)]))
  have xV := xF7
  rw [ec2] at xV
  refine Gd.go (fun _ w_k => XS.astoreN X3.here hx rfl (hb hby d3_14) rfl rfl (l' := #[.val (.long (Int64.ofNat n)), .second, .val (.int (Int32.ofNat k)), .val (.ref b3)]) rfl w_k) ?_
  show Gd _ _ _ _ (T3.setTop (mkF m 15 #[.val (.long (Int64.ofNat n)), .second, .val (.int (Int32.ofNat k)), .val (.ref b3)] []))
  refine Gd.go (fun _ w_k => XS.lloadN X3.here hx rfl (hb hby d3_15) rfl w_k) ?_
  show Gd _ _ _ _ (T3.setTop (mkF m 16 #[.val (.long (Int64.ofNat n)), .second, .val (.int (Int32.ofNat k)), .val (.ref b3)] [(.long (Int64.ofNat n))]))
  refine Gd.go (fun _ w_k => XS.iloadN X3.here hx rfl (hb hby d3_16) rfl w_k) ?_
  show Gd _ _ _ _ (T3.setTop (mkF m 17 #[.val (.long (Int64.ofNat n)), .second, .val (.int (Int32.ofNat k)), .val (.ref b3)] [(.int (Int32.ofNat k)), (.long (Int64.ofNat n))]))
  refine Gd.go (fun _ w_k => XS.aloadN X3.here hx rfl (hb hby d3_17) rfl rfl w_k) ?_
  show Gd _ _ _ _ (T3.setTop (mkF m 18 #[.val (.long (Int64.ofNat n)), .second, .val (.int (Int32.ofNat k)), .val (.ref b3)] [(.ref b3), (.int (Int32.ofNat k)), (.long (Int64.ofNat n))]))
  obtain ⟨v8, T8, L8, X8, hQ8, st8⟩ := own_callS X3 hx hZ (y := (⟨"java/lang/Long", "getChars", "(JI[B)I"⟩ : MethodName)) hown (hw _ (List.mem_of_getElem? (i := 39) rfl)) (hw _ (List.mem_of_getElem? (i := 40) rfl)) (hw _ (List.mem_of_getElem? (i := 30) rfl)) (hw _ (List.mem_of_getElem? (i := 41) rfl)) (by decide) (W := 0) (own_c5 l Z a0 hw cs fv gv d1 d2 G h3 n0 xO4 n k hn hk b3 n0_b3 (fun _ => 0) (fun _ => (by show 0 < 128; decide)) xV) rfl rfl e3 (by decide) (by decide) (g := (mkF m 18 #[.val (.long (Int64.ofNat n)), .second, .val (.int (Int32.ofNat k)), .val (.ref b3)] [(.ref b3), (.int (Int32.ofNat k)), (.long (Int64.ofNat n))])) rfl (by rw [hml]; rfl) (argsL := [(.long (Int64.ofNat n)), (.int (Int32.ofNat k)), (.ref b3)]) (rest := []) (lenOf own_pd18 rfl) rfl (Nat.le_of_eq rfl) (hb hby d3_18) rfl (by decide) (by decide)
  obtain ⟨⟨v5, rfl⟩, K5, A5, O5, N5⟩ := hQ8
  refine Gd.go (fun _ w_k => st8 _ w_k) ?_
  show Gd _ _ _ _ (T8.setTop (mkF m 21 #[.val (.long (Int64.ofNat n)), .second, .val (.int (Int32.ofNat k)), .val (.ref b3)] [(.int v5)]))
  have xF9 := Ax3.keep K5
  have xZs10 := Nat.le_trans xZs5 K5.1
  have xN11 := Fr.app N0 N5
  have xK12 := Keep.trans xK6 K5 (allS (P := fun z => z ∈ ([] : List Addr) ∨ h0.size ≤ z) (Or.inr kn_b3) all0)
  refine Gd.go (fun _ w_k => XS.pop X8.here hx rfl (hb hby d3_21) rfl rfl w_k) ?_
  show Gd _ _ _ _ (T8.setTop (mkF m 22 #[.val (.long (Int64.ofNat n)), .second, .val (.int (Int32.ofNat k)), .val (.ref b3)] []))
  obtain ⟨T13, h13, X13, e13, E13, A13, D13, -, st13⟩ := newO X8 hx hZ hown (hw _ (List.mem_of_getElem? (i := 45) rfl)) (hw _ (List.mem_of_getElem? (i := 46) rfl)) (hw _ (List.mem_of_getElem? (i := 37) rfl)) rfl (g := (mkF m 22 #[.val (.long (Int64.ofNat n)), .second, .val (.int (Int32.ofNat k)), .val (.ref b3)] [])) rfl (hb hby d3_22) (by decide) (by decide)
  obtain ⟨b13, g13⟩ : ∃ z, z = T8.heap.size := ⟨_, rfl⟩
  rw [← g13] at A13 D13 st13
  have ne_b3_b13 : b3 ≠ b13 := fun q => Nat.lt_irrefl _ (Nat.lt_of_lt_of_le xF9.lt (Nat.le_of_eq (q.trans g13).symm))
  have n0_b13 : n0 ≤ b13 := Nat.le_trans xZs10 (Nat.le_of_eq g13.symm)
  have kn_b13 : h0.size ≤ b13 := Nat.le_trans xK12.1 (Nat.le_of_eq g13.symm)
  have xF14 := xF9.ext E13
  have xF15 := A5.ext E13
  have xO16 := Old.ext O5 E13
  have xZs17 := Nat.le_trans xZs10 E13.1
  have xK18 := Keep.ext xK12 E13
  have xF19 : Fld Z h13 b13 "java/lang/String" "value" "[B" .null := D13 (Or.inr (hw _ (List.mem_of_getElem? (i := 55) rfl))) (ty := (.array .byte)) (by decide)
  have xF20 : Fld Z h13 b13 "java/lang/String" "coder" "B" (.int (0 : Int32)) := D13 (Or.inr (hw _ (List.mem_of_getElem? (i := 57) rfl))) (ty := .byte) (by decide)
  refine Gd.go (fun _ w_k => st13 _ w_k) ?_
  show Gd _ _ _ _ (T13.setTop (mkF m 25 #[.val (.long (Int64.ofNat n)), .second, .val (.int (Int32.ofNat k)), .val (.ref b3)] [(.ref b13)]))
  refine Gd.go (fun _ w_k => XS.dup X13.here hx rfl (hb hby d3_25) rfl rfl w_k) ?_
  show Gd _ _ _ _ (T13.setTop (mkF m 26 #[.val (.long (Int64.ofNat n)), .second, .val (.int (Int32.ofNat k)), .val (.ref b3)] [(.ref b13), (.ref b13)]))
  refine Gd.go (fun _ w_k => XS.aloadN X13.here hx rfl (hb hby d3_26) rfl rfl w_k) ?_
  show Gd _ _ _ _ (T13.setTop (mkF m 27 #[.val (.long (Int64.ofNat n)), .second, .val (.int (Int32.ofNat k)), .val (.ref b3)] [(.ref b3), (.ref b13), (.ref b13)]))
  refine Gd.go (fun _ w_k => XS.iconst X13.here hx rfl (hb hby d3_27) w_k) ?_
  show Gd _ _ _ _ (T13.setTop (mkF m 28 #[.val (.long (Int64.ofNat n)), .second, .val (.int (Int32.ofNat k)), .val (.ref b3)] [(.int (0 : Int32)), (.ref b3), (.ref b13), (.ref b13)]))
  obtain ⟨v21, T21, L21, X21, hQ21, st21⟩ := own_callI X13 hx hZ (y := (⟨"java/lang/String", "<init>", "([BB)V"⟩ : MethodName)) rfl hown (hw _ (List.mem_of_getElem? (i := 47) rfl)) (hw _ (List.mem_of_getElem? (i := 48) rfl)) (hw _ (List.mem_of_getElem? (i := 37) rfl)) (hw _ (List.mem_of_getElem? (i := 50) rfl)) (by decide) (b := b13) (W := 1) (own_c6 l Z a0 hw cs fv gv d1 d2 G h13 n0 xO16 b13 n0_b13 A13 xF19 xF20 b3 n0_b3 k (own_dg n k) xF15 (Ne.symm ne_b3_b13)) rfl rfl e13 (by decide) (by decide) (g := (mkF m 28 #[.val (.long (Int64.ofNat n)), .second, .val (.int (Int32.ofNat k)), .val (.ref b3)] [(.int (0 : Int32)), (.ref b3), (.ref b13), (.ref b13)])) rfl (by rw [hml]; rfl) (argsL := [(.ref b3), (.int (0 : Int32))]) (rest := [(.ref b13)]) (lenOf own_pd19 rfl) rfl (Nat.le_of_eq rfl) (hb hby d3_28) rfl (by decide) (by decide)
  obtain ⟨rfl, K6, H6, O6, N6⟩ := hQ21
  refine Gd.go (fun _ w_k => st21 _ w_k) ?_
  show Gd _ _ _ _ (T21.setTop (mkF m 31 #[.val (.long (Int64.ofNat n)), .second, .val (.int (Int32.ofNat k)), .val (.ref b3)] [(.ref b13)]))
  have KK := Keep.trans xK18 K6 (allS (P := fun z => z ∈ ([] : List Addr) ∨ h0.size ≤ z) (Or.inr kn_b13) all0)
  have NN := Fr.app xN11 N6
  refine own_retA X21 hx hret hlk rfl (hb hby d3_31) ?_ (by decide) (by decide)
  exact ⟨b13, b3, rfl, kn_b13, kn_b3, KK, H6, O6, NN⟩
def own_w (n k q : Nat) : Nat := if (k + (k - 1) / 3 - 1 - q) % 4 = 3 then 44 else 48 + n / 10 ^ ((k + (k - 1) / 3 - 1 - q) - (k + (k - 1) / 3 - 1 - q) / 4) % 10
theorem own_wb (n k : Nat) : own_by (own_w n k) := fun i => by unfold own_w; split <;> omega
theorem own_T.congr {Z : State} {h : Heap} {t V : Addr} {n0 n n' : Nat} {f g : Nat → Nat} (H : own_T Z h t V n0 n f) (e : n = n') (q : ∀ i, i < n → f i = g i) : own_T Z h t V n0 n' g := by
  obtain ⟨a1, a2, a3, a4, r⟩ := H
  subst e
  exact ⟨a1, a2, a3, a4.congr fun i hi => congrArg (fun z => Value.int (Int32.ofNat z)) (q i hi), r⟩
theorem own_w0 {n k q : Nat} (k1 : 1 ≤ k) (hq : q < (k - 1) % 3 + 1) : own_dg n k q = own_w n k q := by
  unfold own_dg own_w
  rw [if_neg (by omega)]
  rw [show k + (k - 1) / 3 - 1 - q - (k + (k - 1) / 3 - 1 - q) / 4 = k - 1 - q by omega]
theorem own_w1 {n k j : Nat} (k1 : 1 ≤ k) (hj : j < (k - 1) / 3) : own_w n k ((k - 1) % 3 + 1 + 4 * j) = 44 := by
  unfold own_w
  rw [if_pos (by omega)]
theorem own_w2 {n k j s : Nat} (k1 : 1 ≤ k) (hj : j < (k - 1) / 3) (hs : s < 3) : own_dg n k ((k - 1) % 3 + 1 + 3 * j + s) = own_w n k ((k - 1) % 3 + 1 + 4 * j + 1 + s) := by
  unfold own_dg own_w
  rw [if_neg (by omega)]
  rw [show k + (k - 1) / 3 - 1 - ((k - 1) % 3 + 1 + 4 * j + 1 + s) - (k + (k - 1) / 3 - 1 - ((k - 1) % 3 + 1 + 4 * j + 1 + s)) / 4 = k - 1 - ((k - 1) % 3 + 1 + 3 * j + s) by omega]
theorem own_cE {k : Nat} (k1 : 1 ≤ k) (k19 : k ≤ 19) : (Int32.ofNat k - (1 : Int32)) % (3 : Int32) + (1 : Int32) = Int32.ofNat ((k - 1) % 3 + 1) := by
  have : ∀ k : Fin 20, 1 ≤ k.val → (Int32.ofNat k.val - (1 : Int32)) % (3 : Int32) + (1 : Int32) = Int32.ofNat ((k.val - 1) % 3 + 1) := by decide +kernel
  exact this ⟨k, by omega⟩ k1
theorem own_capE {k : Nat} (k19 : k ≤ 19) : Int32.ofNat k + Int32.ofNat k / (3 : Int32) = Int32.ofNat (k + k / 3) := by
  have : ∀ k : Fin 20, Int32.ofNat k.val + Int32.ofNat k.val / (3 : Int32) = Int32.ofNat (k.val + k.val / 3) := by decide +kernel
  exact this ⟨k, by omega⟩
theorem own_lenE {k : Nat} (k1 : 1 ≤ k) (k19 : k ≤ 19) : Int32.ofNat k + (Int32.ofNat k - (1 : Int32)) / (3 : Int32) = Int32.ofNat (k + (k - 1) / 3) := by
  have : ∀ k : Fin 20, 1 ≤ k.val → Int32.ofNat k.val + (Int32.ofNat k.val - (1 : Int32)) / (3 : Int32) = Int32.ofNat (k.val + (k.val - 1) / 3) := by decide +kernel
  exact this ⟨k, by omega⟩ k1
theorem own_add3 (a : Nat) : Int32.ofNat a + (3 : Int32) = Int32.ofNat (a + 3) := (Int32.ofNat_add a 3).symm
theorem own_pn33 : plainFor (⟨"com/example/yuletally/yuletally/engine/Digits", "grouped", "(J)Ljava/lang/String;"⟩ : MethodName) = true := by first | exact plainFor_of_name (by first | (simp [plainName, overriddenIn, x]; done) | decide +kernel) | decide +kernel
theorem ef_2 (m : MethodId) (q0 : Int64) : entryFrame m #[(.long q0)] 6 = mkF m 0 #[.val (.long q0), .second, .unset, .unset, .unset, .unset] [] := by first | (simp [entryFrame, mkF, argsToLocals, Value.category, maxLocals]; done) | rfl
theorem d2_0 : decode prog_23_method_5_code 0 = .ok (.lload_n 0, 1) := by decide +kernel
theorem own_pd20 : parseMethodDescriptor "(J)Ljava/lang/String;" = some ⟨[.long], some (.object "java/lang/String")⟩ := by decide +kernel
theorem d2_1 : decode prog_23_method_5_code 1 = .ok (.invokestatic 38, 3) := by decide +kernel
theorem d2_4 : decode prog_23_method_5_code 4 = .ok (.astore_n 2, 1) := by decide +kernel
theorem d2_5 : decode prog_23_method_5_code 5 = .ok (.aload_n 2, 1) := by decide +kernel
theorem d2_6 : decode prog_23_method_5_code 6 = .ok (.invokevirtual 7, 3) := by decide +kernel
theorem d2_9 : decode prog_23_method_5_code 9 = .ok (.iconst 1, 1) := by decide +kernel
theorem d2_10 : decode prog_23_method_5_code 10 = .ok (.isub, 1) := by decide +kernel
theorem d2_11 : decode prog_23_method_5_code 11 = .ok (.iconst 3, 1) := by decide +kernel
theorem d2_12 : decode prog_23_method_5_code 12 = .ok (.irem, 1) := by decide +kernel
theorem d2_13 : decode prog_23_method_5_code 13 = .ok (.iconst 1, 1) := by decide +kernel
theorem d2_14 : decode prog_23_method_5_code 14 = .ok (.iadd, 1) := by decide +kernel
theorem d2_15 : decode prog_23_method_5_code 15 = .ok (.istore_n 3, 1) := by decide +kernel
theorem d2_16 : decode prog_23_method_5_code 16 = .ok (.new 44, 3) := by decide +kernel
theorem d2_19 : decode prog_23_method_5_code 19 = .ok (.dup, 1) := by decide +kernel
theorem d2_20 : decode prog_23_method_5_code 20 = .ok (.aload_n 2, 1) := by decide +kernel
theorem d2_21 : decode prog_23_method_5_code 21 = .ok (.invokevirtual 7, 3) := by decide +kernel
theorem d2_24 : decode prog_23_method_5_code 24 = .ok (.aload_n 2, 1) := by decide +kernel
theorem d2_25 : decode prog_23_method_5_code 25 = .ok (.invokevirtual 7, 3) := by decide +kernel
theorem d2_28 : decode prog_23_method_5_code 28 = .ok (.iconst 3, 1) := by decide +kernel
theorem d2_29 : decode prog_23_method_5_code 29 = .ok (.idiv, 1) := by decide +kernel
theorem d2_30 : decode prog_23_method_5_code 30 = .ok (.iadd, 1) := by decide +kernel
theorem d2_31 : decode prog_23_method_5_code 31 = .ok (.invokespecial 46, 3) := by decide +kernel
theorem d2_34 : decode prog_23_method_5_code 34 = .ok (.astore 4, 2) := by decide +kernel
theorem d2_36 : decode prog_23_method_5_code 36 = .ok (.aload 4, 2) := by decide +kernel
theorem d2_38 : decode prog_23_method_5_code 38 = .ok (.aload_n 2, 1) := by decide +kernel
theorem d2_39 : decode prog_23_method_5_code 39 = .ok (.iconst 0, 1) := by decide +kernel
theorem d2_40 : decode prog_23_method_5_code 40 = .ok (.iload_n 3, 1) := by decide +kernel
theorem own_pd21 : parseMethodDescriptor "(Ljava/lang/CharSequence;II)Ljava/lang/StringBuilder;" = some ⟨[(.object "java/lang/CharSequence"), .int, .int], some (.object "java/lang/StringBuilder")⟩ := by decide +kernel
theorem d2_41 : decode prog_23_method_5_code 41 = .ok (.invokevirtual 49, 3) := by decide +kernel
theorem d2_44 : decode prog_23_method_5_code 44 = .ok (.pop, 1) := by decide +kernel
theorem d2_45 : decode prog_23_method_5_code 45 = .ok (.iload_n 3, 1) := by decide +kernel
theorem d2_46 : decode prog_23_method_5_code 46 = .ok (.istore 5, 2) := by decide +kernel
theorem d2_48 : decode prog_23_method_5_code 48 = .ok (.iload 5, 2) := by decide +kernel
theorem d2_50 : decode prog_23_method_5_code 50 = .ok (.aload_n 2, 1) := by decide +kernel
theorem d2_51 : decode prog_23_method_5_code 51 = .ok (.invokevirtual 7, 3) := by decide +kernel
theorem d2_54 : decode prog_23_method_5_code 54 = .ok (.if_icmp .ge 27, 3) := by decide +kernel
theorem d2_81 : decode prog_23_method_5_code 81 = .ok (.aload 4, 2) := by decide +kernel
theorem own_pd22 : parseMethodDescriptor "()Ljava/lang/String;" = some ⟨[], some (.object "java/lang/String")⟩ := by decide +kernel
theorem d2_83 : decode prog_23_method_5_code 83 = .ok (.invokevirtual 56, 3) := by decide +kernel
theorem d2_86 : decode prog_23_method_5_code 86 = .ok (.areturn, 1) := by decide +kernel
theorem d2_57 : decode prog_23_method_5_code 57 = .ok (.aload 4, 2) := by decide +kernel
theorem d2_59 : decode prog_23_method_5_code 59 = .ok (.bipush 44, 2) := by decide +kernel
theorem own_pd23 : parseMethodDescriptor "(C)Ljava/lang/StringBuilder;" = some ⟨[.char], some (.object "java/lang/StringBuilder")⟩ := by decide +kernel
theorem d2_61 : decode prog_23_method_5_code 61 = .ok (.invokevirtual 53, 3) := by decide +kernel
theorem d2_64 : decode prog_23_method_5_code 64 = .ok (.aload_n 2, 1) := by decide +kernel
theorem d2_65 : decode prog_23_method_5_code 65 = .ok (.iload 5, 2) := by decide +kernel
theorem d2_67 : decode prog_23_method_5_code 67 = .ok (.iload 5, 2) := by decide +kernel
theorem d2_69 : decode prog_23_method_5_code 69 = .ok (.iconst 3, 1) := by decide +kernel
theorem d2_70 : decode prog_23_method_5_code 70 = .ok (.iadd, 1) := by decide +kernel
theorem d2_71 : decode prog_23_method_5_code 71 = .ok (.invokevirtual 49, 3) := by decide +kernel
theorem d2_74 : decode prog_23_method_5_code 74 = .ok (.pop, 1) := by decide +kernel
theorem d2_75 : decode prog_23_method_5_code 75 = .ok (.iinc 5 3, 3) := by decide +kernel
theorem d2_78 : decode prog_23_method_5_code 78 = .ok (.goto (-30), 3) := by decide +kernel
set_option maxRecDepth 65536 in
set_option maxHeartbeats 40000000 in
theorem own_c2 (l : Launch) (Z : State) (a0 : Array Value) (hw : ∀ d ∈ tables_1, d.before a0 Z = true) (cs : Int32) (fv gv : Value) (d1 d2 : Addr) (G : own_G Z cs fv gv d1 d2) (h0 : Heap) (n0 : Nat) (O0 : Old Z n0 h0) (Z0 : n0 ≤ h0.size) (n k : Nat) (hn : n < 2 ^ 63) (hk : own_dl n k) :
    Con l Z (⟨"com/example/yuletally/yuletally/engine/Digits", "grouped", "(J)Ljava/lang/String;"⟩ : MethodName) prog_23_method_5_code 6 (some (.object "java/lang/String")) [] ({ frames := 6, cells := 6, slots := 81, locals := 113 } : Room) 6 81 #[(.long (Int64.ofNat n))] h0 (fun r h L => ∃ t W, r = some (.ref t) ∧ Keep h0 h [] ∧ own_T Z h t W n0 (k + (k - 1) / 3) (own_w n k) ∧ Old Z n0 h ∧ Fr n0 L) := by
  refine Con.of own_pn33 ?_
  intro pg ev s_ m bl mt cd s₁ hx hby hml hown hnm hret hlk hZ X0 e0
  rw [ef_2]
  show Gd _ _ _ _ (s₁.setTop (mkF m 0 #[.val (.long (Int64.ofNat n)), .second, .unset, .unset, .unset, .unset] []))
  have k19 := hk.2.1
  have k1 := hk.1
  have N0 := Fr.nil n0
  have K0 := Keep.refl h0 []
  obtain ⟨mm, hmm⟩ : ∃ q, q = (k - 1) / 3 := ⟨_, rfl⟩
  obtain ⟨cc, hcc⟩ : ∃ q, q = (k - 1) % 3 + 1 := ⟨_, rfl⟩
  obtain ⟨cp, hcp⟩ : ∃ q, q = k + k / 3 := ⟨_, rfl⟩
  refine Gd.go (fun _ w_k => XS.lloadN X0.here hx rfl (hb hby d2_0) rfl w_k) ?_
  show Gd _ _ _ _ (s₁.setTop (mkF m 1 #[.val (.long (Int64.ofNat n)), .second, .unset, .unset, .unset, .unset] [(.long (Int64.ofNat n))]))
  obtain ⟨v1, T1, L1, X1, hQ1, st1⟩ := own_callS X0 hx hZ (y := (⟨"java/lang/Long", "toString", "(J)Ljava/lang/String;"⟩ : MethodName)) hown (hw _ (List.mem_of_getElem? (i := 28) rfl)) (hw _ (List.mem_of_getElem? (i := 29) rfl)) (hw _ (List.mem_of_getElem? (i := 30) rfl)) (hw _ (List.mem_of_getElem? (i := 31) rfl)) (by decide) (W := 0) (own_c3 l Z a0 hw cs fv gv d1 d2 G h0 n0 O0 Z0 n k hn hk) rfl rfl e0 (by decide) (by decide) (g := (mkF m 1 #[.val (.long (Int64.ofNat n)), .second, .unset, .unset, .unset, .unset] [(.long (Int64.ofNat n))])) rfl (by rw [hml]; rfl) (argsL := [(.long (Int64.ofNat n))]) (rest := []) (lenOf own_pd20 rfl) rfl (Nat.le_of_eq rfl) (hb hby d2_1) rfl (by decide) (by decide)
  obtain ⟨t, V, rfl, qt, qV, K1, HT, O1, N1⟩ := hQ1
  refine Gd.go (fun _ w_k => st1 _ w_k) ?_
  show Gd _ _ _ _ (T1.setTop (mkF m 4 #[.val (.long (Int64.ofNat n)), .second, .unset, .unset, .unset, .unset] [(.ref t)]))
  have xZs2 := Nat.le_trans Z0 K1.1
  have xN3 := Fr.app N0 N1
  have xK4 := Keep.trans K0 K1 all0
  have lt_t := HT.1.lt
  have lt_V := HT.2.2.2.1.lt
  refine Gd.go (fun _ w_k => XS.astoreN X1.here hx rfl (hb hby d2_4) rfl rfl (l' := #[.val (.long (Int64.ofNat n)), .second, .val (.ref t), .unset, .unset, .unset]) rfl w_k) ?_
  show Gd _ _ _ _ (T1.setTop (mkF m 5 #[.val (.long (Int64.ofNat n)), .second, .val (.ref t), .unset, .unset, .unset] []))
  refine Gd.go (fun _ w_k => XS.aloadN X1.here hx rfl (hb hby d2_5) rfl rfl w_k) ?_
  show Gd _ _ _ _ (T1.setTop (mkF m 6 #[.val (.long (Int64.ofNat n)), .second, .val (.ref t), .unset, .unset, .unset] [(.ref t)]))
  obtain ⟨T5, X5, e5, st5⟩ := own_callVP X1 hx hZ (C := "java/lang/String") (y := (⟨"java/lang/String", "length", "()I"⟩ : MethodName)) hown (hw _ (List.mem_of_getElem? (i := 58) rfl)) (hw _ (List.mem_of_getElem? (i := 59) rfl)) (hw _ (List.mem_of_getElem? (i := 61) rfl)) (hw _ (List.mem_of_getElem? (i := 60) rfl)) (hw _ (List.mem_of_getElem? (i := 37) rfl)) (hw _ (List.mem_of_getElem? (i := 62) rfl)) (by decide) HT.1 (W := 0) (own_c8 l Z a0 hw cs fv gv d1 d2 G T1.heap n0 O1 t V k (own_dg n k) HT) rfl rfl rfl (by decide) (by decide) (g := (mkF m 6 #[.val (.long (Int64.ofNat n)), .second, .val (.ref t), .unset, .unset, .unset] [(.ref t)])) rfl (by rw [hml]; rfl) (argsL := []) (rest := []) (lenOf own_pd1 rfl) rfl (Nat.le_of_eq rfl) (hb hby d2_6) rfl
  refine Gd.go (fun _ w_k => st5 _ w_k) ?_
  show Gd _ _ _ _ (T5.setTop (mkF m 9 #[.val (.long (Int64.ofNat n)), .second, .val (.ref t), .unset, .unset, .unset] [(.int (Int32.ofNat k))]))
  refine Gd.go (fun _ w_k => XS.iconst X5.here hx rfl (hb hby d2_9) w_k) ?_
  show Gd _ _ _ _ (T5.setTop (mkF m 10 #[.val (.long (Int64.ofNat n)), .second, .val (.ref t), .unset, .unset, .unset] [(.int (1 : Int32)), (.int (Int32.ofNat k))]))
  refine Gd.go (fun _ w_k => XS.isub X5.here hx rfl (hb hby d2_10) rfl w_k) ?_
  show Gd _ _ _ _ (T5.setTop (mkF m 11 #[.val (.long (Int64.ofNat n)), .second, .val (.ref t), .unset, .unset, .unset] [(.int ((Int32.ofNat k) - (1 : Int32)))]))
  refine Gd.go (fun _ w_k => XS.iconst X5.here hx rfl (hb hby d2_11) w_k) ?_
  show Gd _ _ _ _ (T5.setTop (mkF m 12 #[.val (.long (Int64.ofNat n)), .second, .val (.ref t), .unset, .unset, .unset] [(.int (3 : Int32)), (.int ((Int32.ofNat k) - (1 : Int32)))]))
  refine Gd.go (fun _ w_k => iremM (g := (mkF m 12 #[.val (.long (Int64.ofNat n)), .second, .val (.ref t), .unset, .unset, .unset] [(.int (3 : Int32)), (.int ((Int32.ofNat k) - (1 : Int32)))])) X5 hx rfl (hb hby d2_12) rfl (by decide) w_k) ?_
  show Gd _ _ _ _ (T5.setTop (mkF m 13 #[.val (.long (Int64.ofNat n)), .second, .val (.ref t), .unset, .unset, .unset] [(.int (((Int32.ofNat k) - (1 : Int32)) % (3 : Int32)))]))
  refine Gd.go (fun _ w_k => XS.iconst X5.here hx rfl (hb hby d2_13) w_k) ?_
  show Gd _ _ _ _ (T5.setTop (mkF m 14 #[.val (.long (Int64.ofNat n)), .second, .val (.ref t), .unset, .unset, .unset] [(.int (1 : Int32)), (.int (((Int32.ofNat k) - (1 : Int32)) % (3 : Int32)))]))
  refine Gd.go (fun _ w_k => XS.iadd X5.here hx rfl (hb hby d2_14) rfl w_k) ?_
  show Gd _ _ _ _ (T5.setTop (mkF m 15 #[.val (.long (Int64.ofNat n)), .second, .val (.ref t), .unset, .unset, .unset] [(.int ((((Int32.ofNat k) - (1 : Int32)) % (3 : Int32)) + (1 : Int32)))]))
  rw [own_cE k1 k19, ← hcc]
  show Gd _ _ _ _ (T5.setTop (mkF m 15 #[.val (.long (Int64.ofNat n)), .second, .val (.ref t), .unset, .unset, .unset] [(.int (Int32.ofNat cc))]))
  refine Gd.go (fun _ w_k => XS.istoreN X5.here hx rfl (hb hby d2_15) rfl (l' := #[.val (.long (Int64.ofNat n)), .second, .val (.ref t), .val (.int (Int32.ofNat cc)), .unset, .unset]) rfl w_k) ?_
  show Gd _ _ _ _ (T5.setTop (mkF m 16 #[.val (.long (Int64.ofNat n)), .second, .val (.ref t), .val (.int (Int32.ofNat cc)), .unset, .unset] []))
  obtain ⟨T6, h6, X6, e6, E6, A6, D6, -, st6⟩ := newO X5 hx hZ hown (hw _ (List.mem_of_getElem? (i := 69) rfl)) (hw _ (List.mem_of_getElem? (i := 70) rfl)) (hw _ (List.mem_of_getElem? (i := 71) rfl)) e5 (g := (mkF m 16 #[.val (.long (Int64.ofNat n)), .second, .val (.ref t), .val (.int (Int32.ofNat cc)), .unset, .unset] [])) rfl (hb hby d2_16) (by decide) (by decide)
  obtain ⟨b6, g6⟩ : ∃ z, z = T1.heap.size := ⟨_, rfl⟩
  rw [← g6] at A6 D6 st6
  have n0_b6 : n0 ≤ b6 := Nat.le_trans xZs2 (Nat.le_of_eq g6.symm)
  have kn_b6 : h0.size ≤ b6 := Nat.le_trans xK4.1 (Nat.le_of_eq g6.symm)
  have xF7 := HT.ext E6
  have xO8 := Old.ext O1 E6
  have xZs9 := Nat.le_trans xZs2 E6.1
  have xK10 := Keep.ext xK4 E6
  have xF11 : Fld Z h6 b6 "java/lang/AbstractStringBuilder" "value" "[B" .null := D6 (Or.inl (hw _ (List.mem_of_getElem? (i := 84) rfl))) (ty := (.array .byte)) (by decide)
  have xF12 : Fld Z h6 b6 "java/lang/AbstractStringBuilder" "coder" "B" (.int (0 : Int32)) := D6 (Or.inl (hw _ (List.mem_of_getElem? (i := 86) rfl))) (ty := .byte) (by decide)
  have xF13 : Fld Z h6 b6 "java/lang/AbstractStringBuilder" "count" "I" (.int (0 : Int32)) := D6 (Or.inl (hw _ (List.mem_of_getElem? (i := 111) rfl))) (ty := .int) (by decide)
  refine Gd.go (fun _ w_k => st6 _ w_k) ?_
  show Gd _ _ _ _ (T6.setTop (mkF m 19 #[.val (.long (Int64.ofNat n)), .second, .val (.ref t), .val (.int (Int32.ofNat cc)), .unset, .unset] [(.ref b6)]))
  have nt_b : t ≠ b6 := Nat.ne_of_lt (Nat.lt_of_lt_of_le lt_t (Nat.le_of_eq g6.symm))
  have nV_b : V ≠ b6 := Nat.ne_of_lt (Nat.lt_of_lt_of_le lt_V (Nat.le_of_eq g6.symm))
  refine Gd.go (fun _ w_k => XS.dup X6.here hx rfl (hb hby d2_19) rfl rfl w_k) ?_
  show Gd _ _ _ _ (T6.setTop (mkF m 20 #[.val (.long (Int64.ofNat n)), .second, .val (.ref t), .val (.int (Int32.ofNat cc)), .unset, .unset] [(.ref b6), (.ref b6)]))
  refine Gd.go (fun _ w_k => XS.aloadN X6.here hx rfl (hb hby d2_20) rfl rfl w_k) ?_
  show Gd _ _ _ _ (T6.setTop (mkF m 21 #[.val (.long (Int64.ofNat n)), .second, .val (.ref t), .val (.int (Int32.ofNat cc)), .unset, .unset] [(.ref t), (.ref b6), (.ref b6)]))
  obtain ⟨T14, X14, e14, st14⟩ := own_callVP X6 hx hZ (C := "java/lang/String") (y := (⟨"java/lang/String", "length", "()I"⟩ : MethodName)) hown (hw _ (List.mem_of_getElem? (i := 58) rfl)) (hw _ (List.mem_of_getElem? (i := 59) rfl)) (hw _ (List.mem_of_getElem? (i := 61) rfl)) (hw _ (List.mem_of_getElem? (i := 60) rfl)) (hw _ (List.mem_of_getElem? (i := 37) rfl)) (hw _ (List.mem_of_getElem? (i := 62) rfl)) (by decide) xF7.1 (W := 2) (own_c8 l Z a0 hw cs fv gv d1 d2 G h6 n0 xO8 t V k (own_dg n k) xF7) rfl rfl e6 (by decide) (by decide) (g := (mkF m 21 #[.val (.long (Int64.ofNat n)), .second, .val (.ref t), .val (.int (Int32.ofNat cc)), .unset, .unset] [(.ref t), (.ref b6), (.ref b6)])) rfl (by rw [hml]; rfl) (argsL := []) (rest := [(.ref b6), (.ref b6)]) (lenOf own_pd1 rfl) rfl (Nat.le_of_eq rfl) (hb hby d2_21) rfl
  refine Gd.go (fun _ w_k => st14 _ w_k) ?_
  show Gd _ _ _ _ (T14.setTop (mkF m 24 #[.val (.long (Int64.ofNat n)), .second, .val (.ref t), .val (.int (Int32.ofNat cc)), .unset, .unset] [(.int (Int32.ofNat k)), (.ref b6), (.ref b6)]))
  refine Gd.go (fun _ w_k => XS.aloadN X14.here hx rfl (hb hby d2_24) rfl rfl w_k) ?_
  show Gd _ _ _ _ (T14.setTop (mkF m 25 #[.val (.long (Int64.ofNat n)), .second, .val (.ref t), .val (.int (Int32.ofNat cc)), .unset, .unset] [(.ref t), (.int (Int32.ofNat k)), (.ref b6), (.ref b6)]))
  obtain ⟨T15, X15, e15, st15⟩ := own_callVP X14 hx hZ (C := "java/lang/String") (y := (⟨"java/lang/String", "length", "()I"⟩ : MethodName)) hown (hw _ (List.mem_of_getElem? (i := 58) rfl)) (hw _ (List.mem_of_getElem? (i := 59) rfl)) (hw _ (List.mem_of_getElem? (i := 61) rfl)) (hw _ (List.mem_of_getElem? (i := 60) rfl)) (hw _ (List.mem_of_getElem? (i := 37) rfl)) (hw _ (List.mem_of_getElem? (i := 62) rfl)) (by decide) xF7.1 (W := 3) (own_c8 l Z a0 hw cs fv gv d1 d2 G h6 n0 xO8 t V k (own_dg n k) xF7) rfl rfl e14 (by decide) (by decide) (g := (mkF m 25 #[.val (.long (Int64.ofNat n)), .second, .val (.ref t), .val (.int (Int32.ofNat cc)), .unset, .unset] [(.ref t), (.int (Int32.ofNat k)), (.ref b6), (.ref b6)])) rfl (by rw [hml]; rfl) (argsL := []) (rest := [(.int (Int32.ofNat k)), (.ref b6), (.ref b6)]) (lenOf own_pd1 rfl) rfl (Nat.le_of_eq rfl) (hb hby d2_25) rfl
  refine Gd.go (fun _ w_k => st15 _ w_k) ?_
  show Gd _ _ _ _ (T15.setTop (mkF m 28 #[.val (.long (Int64.ofNat n)), .second, .val (.ref t), .val (.int (Int32.ofNat cc)), .unset, .unset] [(.int (Int32.ofNat k)), (.int (Int32.ofNat k)), (.ref b6), (.ref b6)]))
  refine Gd.go (fun _ w_k => XS.iconst X15.here hx rfl (hb hby d2_28) w_k) ?_
  show Gd _ _ _ _ (T15.setTop (mkF m 29 #[.val (.long (Int64.ofNat n)), .second, .val (.ref t), .val (.int (Int32.ofNat cc)), .unset, .unset] [(.int (3 : Int32)), (.int (Int32.ofNat k)), (.int (Int32.ofNat k)), (.ref b6), (.ref b6)]))
  refine Gd.go (fun _ w_k => XS.idiv X15.here hx rfl (hb hby d2_29) rfl (by decide) w_k) ?_
  show Gd _ _ _ _ (T15.setTop (mkF m 30 #[.val (.long (Int64.ofNat n)), .second, .val (.ref t), .val (.int (Int32.ofNat cc)), .unset, .unset] [(.int ((Int32.ofNat k) / (3 : Int32))), (.int (Int32.ofNat k)), (.ref b6), (.ref b6)]))
  refine Gd.go (fun _ w_k => XS.iadd X15.here hx rfl (hb hby d2_30) rfl w_k) ?_
  show Gd _ _ _ _ (T15.setTop (mkF m 31 #[.val (.long (Int64.ofNat n)), .second, .val (.ref t), .val (.int (Int32.ofNat cc)), .unset, .unset] [(.int ((Int32.ofNat k) + ((Int32.ofNat k) / (3 : Int32)))), (.ref b6), (.ref b6)]))
  rw [own_capE k19, ← hcp]
  show Gd _ _ _ _ (T15.setTop (mkF m 31 #[.val (.long (Int64.ofNat n)), .second, .val (.ref t), .val (.int (Int32.ofNat cc)), .unset, .unset] [(.int (Int32.ofNat cp)), (.ref b6), (.ref b6)]))
  have lt2_t := xF7.1.lt
  have lt2_V := xF7.2.2.2.1.lt
  have lt2_b := A6.lt
  obtain ⟨v16, T16, L16, X16, hQ16, st16⟩ := own_callI X15 hx hZ (y := (⟨"java/lang/StringBuilder", "<init>", "(I)V"⟩ : MethodName)) rfl hown (hw _ (List.mem_of_getElem? (i := 72) rfl)) (hw _ (List.mem_of_getElem? (i := 73) rfl)) (hw _ (List.mem_of_getElem? (i := 71) rfl)) (hw _ (List.mem_of_getElem? (i := 74) rfl)) (by decide) (b := b6) (W := 1) (own_c10 l Z a0 hw cs fv gv d1 d2 G h6 n0 xO8 xZs9 b6 n0_b6 A6 xF11 xF12 xF13 cp (by omega)) rfl rfl e15 (by decide) (by decide) (g := (mkF m 31 #[.val (.long (Int64.ofNat n)), .second, .val (.ref t), .val (.int (Int32.ofNat cc)), .unset, .unset] [(.int (Int32.ofNat cp)), (.ref b6), (.ref b6)])) rfl (by rw [hml]; rfl) (argsL := [(.int (Int32.ofNat cp))]) (rest := [(.ref b6)]) (lenOf own_pd8 rfl) rfl (Nat.le_of_eq rfl) (hb hby d2_31) rfl (by decide) (by decide)
  obtain ⟨rfl, A, qA, K2, S2, O2, N2⟩ := hQ16
  refine Gd.go (fun _ w_k => st16 _ w_k) ?_
  show Gd _ _ _ _ (T16.setTop (mkF m 34 #[.val (.long (Int64.ofNat n)), .second, .val (.ref t), .val (.int (Int32.ofNat cc)), .unset, .unset] [(.ref b6)]))
  have nt_A : t ≠ A := Nat.ne_of_lt (Nat.lt_of_lt_of_le lt2_t qA)
  have nV_A : V ≠ A := Nat.ne_of_lt (Nat.lt_of_lt_of_le lt2_V qA)
  have kA := Nat.le_trans xK10.1 qA
  have DD : own_D b6 A t V := ⟨nt_b.symm, nV_b.symm, nt_A.symm, nV_A.symm⟩
  have gA := Nat.le_trans xZs9 qA
  have xF17 := xF7.keep K2 (ninS nt_b nin0) (ninS nV_b nin0)
  have xZs18 := Nat.le_trans xZs9 K2.1
  have xN19 := Fr.app xN3 N2
  have xK20 := Keep.trans xK10 K2 (allS (P := fun z => z ∈ ([] : List Addr) ∨ h0.size ≤ z) (Or.inr kn_b6) all0)
  refine Gd.go (fun _ w_k => XS.astore X16.here hx rfl (hb hby d2_34) rfl rfl (l' := #[.val (.long (Int64.ofNat n)), .second, .val (.ref t), .val (.int (Int32.ofNat cc)), .val (.ref b6), .unset]) rfl w_k) ?_
  show Gd _ _ _ _ (T16.setTop (mkF m 36 #[.val (.long (Int64.ofNat n)), .second, .val (.ref t), .val (.int (Int32.ofNat cc)), .val (.ref b6), .unset] []))
  refine Gd.go (fun _ w_k => XS.aload X16.here hx rfl (hb hby d2_36) rfl rfl w_k) ?_
  show Gd _ _ _ _ (T16.setTop (mkF m 38 #[.val (.long (Int64.ofNat n)), .second, .val (.ref t), .val (.int (Int32.ofNat cc)), .val (.ref b6), .unset] [(.ref b6)]))
  refine Gd.go (fun _ w_k => XS.aloadN X16.here hx rfl (hb hby d2_38) rfl rfl w_k) ?_
  show Gd _ _ _ _ (T16.setTop (mkF m 39 #[.val (.long (Int64.ofNat n)), .second, .val (.ref t), .val (.int (Int32.ofNat cc)), .val (.ref b6), .unset] [(.ref t), (.ref b6)]))
  refine Gd.go (fun _ w_k => XS.iconst X16.here hx rfl (hb hby d2_39) w_k) ?_
  show Gd _ _ _ _ (T16.setTop (mkF m 40 #[.val (.long (Int64.ofNat n)), .second, .val (.ref t), .val (.int (Int32.ofNat cc)), .val (.ref b6), .unset] [(.int (0 : Int32)), (.ref t), (.ref b6)]))
  refine Gd.go (fun _ w_k => XS.iloadN X16.here hx rfl (hb hby d2_40) rfl w_k) ?_
  show Gd _ _ _ _ (T16.setTop (mkF m 41 #[.val (.long (Int64.ofNat n)), .second, .val (.ref t), .val (.int (Int32.ofNat cc)), .val (.ref b6), .unset] [(.int (Int32.ofNat cc)), (.int (0 : Int32)), (.ref t), (.ref b6)]))
  have xE0 := S2.1
  obtain ⟨v21, T21, L21, X21, hQ21, st21⟩ := own_callV X16 hx hZ (C := "java/lang/StringBuilder") (y := (⟨"java/lang/StringBuilder", "append", "(Ljava/lang/CharSequence;II)Ljava/lang/StringBuilder;"⟩ : MethodName)) hown (hw _ (List.mem_of_getElem? (i := 87) rfl)) (hw _ (List.mem_of_getElem? (i := 88) rfl)) (hw _ (List.mem_of_getElem? (i := 90) rfl)) (hw _ (List.mem_of_getElem? (i := 89) rfl)) (hw _ (List.mem_of_getElem? (i := 71) rfl)) (hw _ (List.mem_of_getElem? (i := 91) rfl)) (by decide) xE0 (W := 0) (own_c12 l Z a0 hw cs fv gv d1 d2 G T16.heap n0 O2 b6 A cp (0) (fun _ => 0) S2 t V k (own_dg n k) xF17 DD (0) (cc) (by omega) (by omega) (by omega) (own_dgb n k)) rfl rfl rfl (by decide) (by decide) (g := (mkF m 41 #[.val (.long (Int64.ofNat n)), .second, .val (.ref t), .val (.int (Int32.ofNat cc)), .val (.ref b6), .unset] [(.int (Int32.ofNat cc)), (.int (0 : Int32)), (.ref t), (.ref b6)])) rfl (by rw [hml]; rfl) (argsL := [(.ref t), (.int (0 : Int32)), (.int (Int32.ofNat cc))]) (rest := []) (lenOf own_pd21 rfl) rfl (Nat.le_of_eq rfl) (hb hby d2_41) rfl (by decide) (by decide)
  obtain ⟨rfl, Ka0, Sa0, Oa0, Na0⟩ := hQ21
  refine Gd.go (fun _ w_k => st21 _ w_k) ?_
  show Gd _ _ _ _ (T21.setTop (mkF m 44 #[.val (.long (Int64.ofNat n)), .second, .val (.ref t), .val (.int (Int32.ofNat cc)), .val (.ref b6), .unset] [(.ref b6)]))
  have xF22 := xF17.keep Ka0 (ninS nt_b (ninS nt_A nin0)) (ninS nV_b (ninS nV_A nin0))
  have xZs23 := Nat.le_trans xZs18 Ka0.1
  have xN24 := Fr.app xN19 Na0
  have xK25 := Keep.trans xK20 Ka0 (allS (P := fun z => z ∈ ([] : List Addr) ∨ h0.size ≤ z) (Or.inr kn_b6) (allS (P := fun z => z ∈ ([] : List Addr) ∨ h0.size ≤ z) (Or.inr kA) all0))
  refine Gd.go (fun _ w_k => XS.pop X21.here hx rfl (hb hby d2_44) rfl rfl w_k) ?_
  show Gd _ _ _ _ (T21.setTop (mkF m 45 #[.val (.long (Int64.ofNat n)), .second, .val (.ref t), .val (.int (Int32.ofNat cc)), .val (.ref b6), .unset] []))
  refine Gd.go (fun _ w_k => XS.iloadN X21.here hx rfl (hb hby d2_45) rfl w_k) ?_
  show Gd _ _ _ _ (T21.setTop (mkF m 46 #[.val (.long (Int64.ofNat n)), .second, .val (.ref t), .val (.int (Int32.ofNat cc)), .val (.ref b6), .unset] [(.int (Int32.ofNat cc))]))
  refine Gd.go (fun _ w_k => XS.istore X21.here hx rfl (hb hby d2_46) rfl (l' := #[.val (.long (Int64.ofNat n)), .second, .val (.ref t), .val (.int (Int32.ofNat cc)), .val (.ref b6), .val (.int (Int32.ofNat cc))]) rfl w_k) ?_
  show Gd _ _ _ _ (T21.setTop (mkF m 48 #[.val (.long (Int64.ofNat n)), .second, .val (.ref t), .val (.int (Int32.ofNat cc)), .val (.ref b6), .val (.int (Int32.ofNat cc))] []))
  have kb := kn_b6
  have gb := n0_b6
  have loop : ∀ (q j : Nat) (g : Nat → Nat) (T : State) (h : Heap) (L : List Loc), j + q = mm → Stand pg l ev ({ frames := 6, cells := 6, slots := 81, locals := 113 } : Room) s_ m #[(.long (Int64.ofNat n))] bl mt cd T L 4 52 → T.heap = h → own_SB Z h b6 A n0 cp (cc + 4 * j) g → own_T Z h t V n0 k (own_dg n k) → Keep h0 h [] → Old Z n0 h → Fr n0 L → n0 ≤ h.size → (∀ i, i < cc + 4 * j → g i = own_w n k i) → Gd pg.tables ev bl (Owes s_ 6 81 (fun r h L => ∃ t W, r = some (.ref t) ∧ Keep h0 h [] ∧ own_T Z h t W n0 (k + (k - 1) / 3) (own_w n k) ∧ Old Z n0 h ∧ Fr n0 L)) (T.setTop (mkF m 48 #[.val (.long (Int64.ofNat n)), .second, .val (.ref t), .val (.int (Int32.ofNat cc)), .val (.ref b6), .val (.int (Int32.ofNat (cc + 3 * j)))] [])) := by
    intro q
    induction q with
    | zero =>
      intro j g T h L hq X eT SS HT K O N Z1 W
      refine Gd.go (fun _ w_k => XS.iload X.here hx rfl (hb hby d2_48) rfl w_k) ?_
      show Gd _ _ _ _ (T.setTop (mkF m 50 #[.val (.long (Int64.ofNat n)), .second, .val (.ref t), .val (.int (Int32.ofNat cc)), .val (.ref b6), .val (.int (Int32.ofNat (cc + 3 * j)))] [(.int (Int32.ofNat (cc + 3 * j)))]))
      refine Gd.go (fun _ w_k => XS.aloadN X.here hx rfl (hb hby d2_50) rfl rfl w_k) ?_
      show Gd _ _ _ _ (T.setTop (mkF m 51 #[.val (.long (Int64.ofNat n)), .second, .val (.ref t), .val (.int (Int32.ofNat cc)), .val (.ref b6), .val (.int (Int32.ofNat (cc + 3 * j)))] [(.ref t), (.int (Int32.ofNat (cc + 3 * j)))]))
      obtain ⟨T26, X26, e26, st26⟩ := own_callVP X hx hZ (C := "java/lang/String") (y := (⟨"java/lang/String", "length", "()I"⟩ : MethodName)) hown (hw _ (List.mem_of_getElem? (i := 58) rfl)) (hw _ (List.mem_of_getElem? (i := 59) rfl)) (hw _ (List.mem_of_getElem? (i := 61) rfl)) (hw _ (List.mem_of_getElem? (i := 60) rfl)) (hw _ (List.mem_of_getElem? (i := 37) rfl)) (hw _ (List.mem_of_getElem? (i := 62) rfl)) (by decide) HT.1 (W := 1) (own_c8 l Z a0 hw cs fv gv d1 d2 G h n0 O t V k (own_dg n k) HT) rfl rfl eT (by decide) (by decide) (g := (mkF m 51 #[.val (.long (Int64.ofNat n)), .second, .val (.ref t), .val (.int (Int32.ofNat cc)), .val (.ref b6), .val (.int (Int32.ofNat (cc + 3 * j)))] [(.ref t), (.int (Int32.ofNat (cc + 3 * j)))])) rfl (by rw [hml]; rfl) (argsL := []) (rest := [(.int (Int32.ofNat (cc + 3 * j)))]) (lenOf own_pd1 rfl) rfl (Nat.le_of_eq rfl) (hb hby d2_51) rfl
      refine Gd.go (fun _ w_k => st26 _ w_k) ?_
      show Gd _ _ _ _ (T26.setTop (mkF m 54 #[.val (.long (Int64.ofNat n)), .second, .val (.ref t), .val (.int (Int32.ofNat cc)), .val (.ref b6), .val (.int (Int32.ofNat (cc + 3 * j)))] [(.int (Int32.ofNat k)), (.int (Int32.ofNat (cc + 3 * j)))]))
      refine Gd.go (fun _ w_k => XS.icmpYes X26.here hx rfl (pc0 := 54) (pc' := 81) rfl (hb hby d2_54) rfl (flt (own_geN (by omega) (by omega))).2.1 (by decide) (by decide) w_k) ?_
      show Gd _ _ _ _ (T26.setTop (mkF m 81 #[.val (.long (Int64.ofNat n)), .second, .val (.ref t), .val (.int (Int32.ofNat cc)), .val (.ref b6), .val (.int (Int32.ofNat (cc + 3 * j)))] []))
      refine Gd.go (fun _ w_k => XS.aload X26.here hx rfl (hb hby d2_81) rfl rfl w_k) ?_
      show Gd _ _ _ _ (T26.setTop (mkF m 83 #[.val (.long (Int64.ofNat n)), .second, .val (.ref t), .val (.int (Int32.ofNat cc)), .val (.ref b6), .val (.int (Int32.ofNat (cc + 3 * j)))] [(.ref b6)]))
      have xEs := SS.1
      obtain ⟨v27, T27, L27, X27, hQ27, st27⟩ := own_callV X26 hx hZ (C := "java/lang/StringBuilder") (y := (⟨"java/lang/StringBuilder", "toString", "()Ljava/lang/String;"⟩ : MethodName)) hown (hw _ (List.mem_of_getElem? (i := 142) rfl)) (hw _ (List.mem_of_getElem? (i := 143) rfl)) (hw _ (List.mem_of_getElem? (i := 145) rfl)) (hw _ (List.mem_of_getElem? (i := 144) rfl)) (hw _ (List.mem_of_getElem? (i := 71) rfl)) (hw _ (List.mem_of_getElem? (i := 146) rfl)) (by decide) xEs (W := 0) (own_c20 l Z a0 hw cs fv gv d1 d2 G h n0 O Z1 b6 A cp (cc + 4 * j) g SS (by omega) (by omega)) rfl rfl e26 (by decide) (by decide) (g := (mkF m 83 #[.val (.long (Int64.ofNat n)), .second, .val (.ref t), .val (.int (Int32.ofNat cc)), .val (.ref b6), .val (.int (Int32.ofNat (cc + 3 * j)))] [(.ref b6)])) rfl (by rw [hml]; rfl) (argsL := []) (rest := []) (lenOf own_pd22 rfl) rfl (Nat.le_of_eq rfl) (hb hby d2_83) rfl (by decide) (by decide)
      obtain ⟨tr, Wr, rfl, qs, qw, Ks, Hs, Os, Ns⟩ := hQ27
      refine Gd.go (fun _ w_k => st27 _ w_k) ?_
      show Gd _ _ _ _ (T27.setTop (mkF m 86 #[.val (.long (Int64.ofNat n)), .second, .val (.ref t), .val (.int (Int32.ofNat cc)), .val (.ref b6), .val (.int (Int32.ofNat (cc + 3 * j)))] [(.ref tr)]))
      have KK := Keep.trans K Ks all0
      have NN := Fr.app N Ns
      refine own_retA X27 hx hret hlk rfl (hb hby d2_86) ?_ (by decide) (by decide)
      exact ⟨tr, Wr, rfl, KK, Hs.congr (by omega) W, Os, NN⟩
    | succ q ih =>
      intro j g T h L hq X eT SS HT K O N Z1 W
      refine Gd.go (fun _ w_k => XS.iload X.here hx rfl (hb hby d2_48) rfl w_k) ?_
      show Gd _ _ _ _ (T.setTop (mkF m 50 #[.val (.long (Int64.ofNat n)), .second, .val (.ref t), .val (.int (Int32.ofNat cc)), .val (.ref b6), .val (.int (Int32.ofNat (cc + 3 * j)))] [(.int (Int32.ofNat (cc + 3 * j)))]))
      refine Gd.go (fun _ w_k => XS.aloadN X.here hx rfl (hb hby d2_50) rfl rfl w_k) ?_
      show Gd _ _ _ _ (T.setTop (mkF m 51 #[.val (.long (Int64.ofNat n)), .second, .val (.ref t), .val (.int (Int32.ofNat cc)), .val (.ref b6), .val (.int (Int32.ofNat (cc + 3 * j)))] [(.ref t), (.int (Int32.ofNat (cc + 3 * j)))]))
      obtain ⟨T28, X28, e28, st28⟩ := own_callVP X hx hZ (C := "java/lang/String") (y := (⟨"java/lang/String", "length", "()I"⟩ : MethodName)) hown (hw _ (List.mem_of_getElem? (i := 58) rfl)) (hw _ (List.mem_of_getElem? (i := 59) rfl)) (hw _ (List.mem_of_getElem? (i := 61) rfl)) (hw _ (List.mem_of_getElem? (i := 60) rfl)) (hw _ (List.mem_of_getElem? (i := 37) rfl)) (hw _ (List.mem_of_getElem? (i := 62) rfl)) (by decide) HT.1 (W := 1) (own_c8 l Z a0 hw cs fv gv d1 d2 G h n0 O t V k (own_dg n k) HT) rfl rfl eT (by decide) (by decide) (g := (mkF m 51 #[.val (.long (Int64.ofNat n)), .second, .val (.ref t), .val (.int (Int32.ofNat cc)), .val (.ref b6), .val (.int (Int32.ofNat (cc + 3 * j)))] [(.ref t), (.int (Int32.ofNat (cc + 3 * j)))])) rfl (by rw [hml]; rfl) (argsL := []) (rest := [(.int (Int32.ofNat (cc + 3 * j)))]) (lenOf own_pd1 rfl) rfl (Nat.le_of_eq rfl) (hb hby d2_51) rfl
      refine Gd.go (fun _ w_k => st28 _ w_k) ?_
      show Gd _ _ _ _ (T28.setTop (mkF m 54 #[.val (.long (Int64.ofNat n)), .second, .val (.ref t), .val (.int (Int32.ofNat cc)), .val (.ref b6), .val (.int (Int32.ofNat (cc + 3 * j)))] [(.int (Int32.ofNat k)), (.int (Int32.ofNat (cc + 3 * j)))]))
      refine Gd.go (fun _ w_k => XS.icmpNo X28.here hx rfl (hb hby d2_54) rfl (tlt (own_ltN (by omega) (by omega))).2.1 w_k) ?_
      show Gd _ _ _ _ (T28.setTop (mkF m 57 #[.val (.long (Int64.ofNat n)), .second, .val (.ref t), .val (.int (Int32.ofNat cc)), .val (.ref b6), .val (.int (Int32.ofNat (cc + 3 * j)))] []))
      refine Gd.go (fun _ w_k => XS.aload X28.here hx rfl (hb hby d2_57) rfl rfl w_k) ?_
      show Gd _ _ _ _ (T28.setTop (mkF m 59 #[.val (.long (Int64.ofNat n)), .second, .val (.ref t), .val (.int (Int32.ofNat cc)), .val (.ref b6), .val (.int (Int32.ofNat (cc + 3 * j)))] [(.ref b6)]))
      refine Gd.go (fun _ w_k => XS.bipush X28.here hx rfl (hb hby d2_59) w_k) ?_
      show Gd _ _ _ _ (T28.setTop (mkF m 61 #[.val (.long (Int64.ofNat n)), .second, .val (.ref t), .val (.int (Int32.ofNat cc)), .val (.ref b6), .val (.int (Int32.ofNat (cc + 3 * j)))] [(.int (44 : Int32)), (.ref b6)]))
      have xEc := SS.1
      obtain ⟨v29, T29, L29, X29, hQ29, st29⟩ := own_callV X28 hx hZ (C := "java/lang/StringBuilder") (y := (⟨"java/lang/StringBuilder", "append", "(C)Ljava/lang/StringBuilder;"⟩ : MethodName)) hown (hw _ (List.mem_of_getElem? (i := 205) rfl)) (hw _ (List.mem_of_getElem? (i := 206) rfl)) (hw _ (List.mem_of_getElem? (i := 208) rfl)) (hw _ (List.mem_of_getElem? (i := 207) rfl)) (hw _ (List.mem_of_getElem? (i := 71) rfl)) (hw _ (List.mem_of_getElem? (i := 209) rfl)) (by decide) xEc (W := 0) (own_c32 l Z a0 hw cs fv gv d1 d2 G h n0 O b6 A cp (cc + 4 * j) g SS (by omega)) rfl rfl e28 (by decide) (by decide) (g := (mkF m 61 #[.val (.long (Int64.ofNat n)), .second, .val (.ref t), .val (.int (Int32.ofNat cc)), .val (.ref b6), .val (.int (Int32.ofNat (cc + 3 * j)))] [(.int (44 : Int32)), (.ref b6)])) rfl (by rw [hml]; rfl) (argsL := [(.int (44 : Int32))]) (rest := []) (lenOf own_pd23 rfl) rfl (Nat.le_of_eq rfl) (hb hby d2_61) rfl (by decide) (by decide)
      obtain ⟨rfl, Kc, Sc, Oc, Nc⟩ := hQ29
      refine Gd.go (fun _ w_k => st29 _ w_k) ?_
      show Gd _ _ _ _ (T29.setTop (mkF m 64 #[.val (.long (Int64.ofNat n)), .second, .val (.ref t), .val (.int (Int32.ofNat cc)), .val (.ref b6), .val (.int (Int32.ofNat (cc + 3 * j)))] [(.ref b6)]))
      have xF30 := HT.keep Kc (ninS nt_b (ninS nt_A nin0)) (ninS nV_b (ninS nV_A nin0))
      have xZs31 := Nat.le_trans Z1 Kc.1
      have xN32 := Fr.app N Nc
      have xK33 := Keep.trans K Kc (allS (P := fun z => z ∈ ([] : List Addr) ∨ h0.size ≤ z) (Or.inr kb) (allS (P := fun z => z ∈ ([] : List Addr) ∨ h0.size ≤ z) (Or.inr kA) all0))
      refine Gd.go (fun _ w_k => XS.aloadN X29.here hx rfl (hb hby d2_64) rfl rfl w_k) ?_
      show Gd _ _ _ _ (T29.setTop (mkF m 65 #[.val (.long (Int64.ofNat n)), .second, .val (.ref t), .val (.int (Int32.ofNat cc)), .val (.ref b6), .val (.int (Int32.ofNat (cc + 3 * j)))] [(.ref t), (.ref b6)]))
      refine Gd.go (fun _ w_k => XS.iload X29.here hx rfl (hb hby d2_65) rfl w_k) ?_
      show Gd _ _ _ _ (T29.setTop (mkF m 67 #[.val (.long (Int64.ofNat n)), .second, .val (.ref t), .val (.int (Int32.ofNat cc)), .val (.ref b6), .val (.int (Int32.ofNat (cc + 3 * j)))] [(.int (Int32.ofNat (cc + 3 * j))), (.ref t), (.ref b6)]))
      refine Gd.go (fun _ w_k => XS.iload X29.here hx rfl (hb hby d2_67) rfl w_k) ?_
      show Gd _ _ _ _ (T29.setTop (mkF m 69 #[.val (.long (Int64.ofNat n)), .second, .val (.ref t), .val (.int (Int32.ofNat cc)), .val (.ref b6), .val (.int (Int32.ofNat (cc + 3 * j)))] [(.int (Int32.ofNat (cc + 3 * j))), (.int (Int32.ofNat (cc + 3 * j))), (.ref t), (.ref b6)]))
      refine Gd.go (fun _ w_k => XS.iconst X29.here hx rfl (hb hby d2_69) w_k) ?_
      show Gd _ _ _ _ (T29.setTop (mkF m 70 #[.val (.long (Int64.ofNat n)), .second, .val (.ref t), .val (.int (Int32.ofNat cc)), .val (.ref b6), .val (.int (Int32.ofNat (cc + 3 * j)))] [(.int (3 : Int32)), (.int (Int32.ofNat (cc + 3 * j))), (.int (Int32.ofNat (cc + 3 * j))), (.ref t), (.ref b6)]))
      refine Gd.go (fun _ w_k => XS.iadd X29.here hx rfl (hb hby d2_70) rfl w_k) ?_
      show Gd _ _ _ _ (T29.setTop (mkF m 71 #[.val (.long (Int64.ofNat n)), .second, .val (.ref t), .val (.int (Int32.ofNat cc)), .val (.ref b6), .val (.int (Int32.ofNat (cc + 3 * j)))] [(.int ((Int32.ofNat (cc + 3 * j)) + (3 : Int32))), (.int (Int32.ofNat (cc + 3 * j))), (.ref t), (.ref b6)]))
      rw [own_add3]
      show Gd _ _ _ _ (T29.setTop (mkF m 71 #[.val (.long (Int64.ofNat n)), .second, .val (.ref t), .val (.int (Int32.ofNat cc)), .val (.ref b6), .val (.int (Int32.ofNat (cc + 3 * j)))] [(.int (Int32.ofNat (cc + 3 * j + 3))), (.int (Int32.ofNat (cc + 3 * j))), (.ref t), (.ref b6)]))
      have xEp := Sc.1
      obtain ⟨v34, T34, L34, X34, hQ34, st34⟩ := own_callV X29 hx hZ (C := "java/lang/StringBuilder") (y := (⟨"java/lang/StringBuilder", "append", "(Ljava/lang/CharSequence;II)Ljava/lang/StringBuilder;"⟩ : MethodName)) hown (hw _ (List.mem_of_getElem? (i := 87) rfl)) (hw _ (List.mem_of_getElem? (i := 88) rfl)) (hw _ (List.mem_of_getElem? (i := 90) rfl)) (hw _ (List.mem_of_getElem? (i := 89) rfl)) (hw _ (List.mem_of_getElem? (i := 71) rfl)) (hw _ (List.mem_of_getElem? (i := 91) rfl)) (by decide) xEp (W := 0) (own_c12 l Z a0 hw cs fv gv d1 d2 G T29.heap n0 Oc b6 A cp (cc + 4 * j + 1) (own_up g (cc + 4 * j) 44) Sc t V k (own_dg n k) xF30 DD (cc + 3 * j) (cc + 3 * j + 3) (by omega) (by omega) (by omega) (own_dgb n k)) rfl rfl rfl (by decide) (by decide) (g := (mkF m 71 #[.val (.long (Int64.ofNat n)), .second, .val (.ref t), .val (.int (Int32.ofNat cc)), .val (.ref b6), .val (.int (Int32.ofNat (cc + 3 * j)))] [(.int (Int32.ofNat (cc + 3 * j + 3))), (.int (Int32.ofNat (cc + 3 * j))), (.ref t), (.ref b6)])) rfl (by rw [hml]; rfl) (argsL := [(.ref t), (.int (Int32.ofNat (cc + 3 * j))), (.int (Int32.ofNat (cc + 3 * j + 3)))]) (rest := []) (lenOf own_pd21 rfl) rfl (Nat.le_of_eq rfl) (hb hby d2_71) rfl (by decide) (by decide)
      obtain ⟨rfl, Kap, Sap, Oap, Nap⟩ := hQ34
      refine Gd.go (fun _ w_k => st34 _ w_k) ?_
      show Gd _ _ _ _ (T34.setTop (mkF m 74 #[.val (.long (Int64.ofNat n)), .second, .val (.ref t), .val (.int (Int32.ofNat cc)), .val (.ref b6), .val (.int (Int32.ofNat (cc + 3 * j)))] [(.ref b6)]))
      have xF35 := xF30.keep Kap (ninS nt_b (ninS nt_A nin0)) (ninS nV_b (ninS nV_A nin0))
      have xZs36 := Nat.le_trans xZs31 Kap.1
      have xN37 := Fr.app xN32 Nap
      have xK38 := Keep.trans xK33 Kap (allS (P := fun z => z ∈ ([] : List Addr) ∨ h0.size ≤ z) (Or.inr kb) (allS (P := fun z => z ∈ ([] : List Addr) ∨ h0.size ≤ z) (Or.inr kA) all0))
      refine Gd.go (fun _ w_k => XS.pop X34.here hx rfl (hb hby d2_74) rfl rfl w_k) ?_
      show Gd _ _ _ _ (T34.setTop (mkF m 75 #[.val (.long (Int64.ofNat n)), .second, .val (.ref t), .val (.int (Int32.ofNat cc)), .val (.ref b6), .val (.int (Int32.ofNat (cc + 3 * j)))] []))
      refine Gd.go (fun _ w_k => XS.iinc X34.here hx rfl (hb hby d2_75) rfl (l' := #[.val (.long (Int64.ofNat n)), .second, .val (.ref t), .val (.int (Int32.ofNat cc)), .val (.ref b6), .val (.int ((Int32.ofNat (cc + 3 * j)) + (3 : Int32)))]) rfl w_k) ?_
      show Gd _ _ _ _ (T34.setTop (mkF m 78 #[.val (.long (Int64.ofNat n)), .second, .val (.ref t), .val (.int (Int32.ofNat cc)), .val (.ref b6), .val (.int ((Int32.ofNat (cc + 3 * j)) + (3 : Int32)))] []))
      rw [own_add3, show cc + 3 * j + 3 = cc + 3 * (j + 1) by omega]
      show Gd _ _ _ _ (T34.setTop (mkF m 78 #[.val (.long (Int64.ofNat n)), .second, .val (.ref t), .val (.int (Int32.ofNat cc)), .val (.ref b6), .val (.int (Int32.ofNat (cc + 3 * (j + 1))))] []))
      refine Gd.go (fun _ w_k => XS.goto X34.here hx rfl (pc0 := 78) (pc' := 48) rfl (hb hby d2_78) (by decide) (by decide) w_k) ?_
      show Gd _ _ _ _ (T34.setTop (mkF m 48 #[.val (.long (Int64.ofNat n)), .second, .val (.ref t), .val (.int (Int32.ofNat cc)), .val (.ref b6), .val (.int (Int32.ofNat (cc + 3 * (j + 1))))] []))
      refine ih (j + 1) _ T34 T34.heap _ (by omega) X34 rfl ((show cc + 4 * j + 1 + (cc + 3 * j + 3 - (cc + 3 * j)) = cc + 4 * (j + 1) by omega) ▸ Sap) xF35 xK38 Oap xN37 xZs36 ?_
      intro i hi
      by_cases q1 : i < cc + 4 * j
      · rw [if_neg (by omega)]; unfold own_up; rw [if_neg (by omega)]; exact W i q1
      · by_cases q2 : i = cc + 4 * j
        · rw [if_neg (by omega)]; unfold own_up; rw [if_pos q2, q2, hcc]; exact (own_w1 k1 (by omega)).symm
        · rw [if_pos (by omega)]
          have e := own_w2 (n := n) (k := k) (j := j) (s := i - (cc + 4 * j + 1)) k1 (by omega) (by omega)
          rw [← hcc, show cc + 4 * j + 1 + (i - (cc + 4 * j + 1)) = i by omega] at e
          exact e
  refine loop mm 0 _ T21 T21.heap _ (by omega) X21 rfl ((show 0 + (cc - 0) = cc + 4 * 0 by omega) ▸ Sa0) xF22 xK25 Oa0 xN24 xZs23 ?_
  intro i hi
  rw [if_pos (by omega)]
  have := own_w0 (n := n) (k := k) (q := i) k1 (by omega)
  rw [← this]
  exact congrArg (own_dg n k) (by omega)
def own_p (j : Nat) : Int64 := Int64.ofNat (10 ^ j)
theorem own_p64 {j : Nat} (h : j ≤ 18) : 10 ^ j < 2 ^ 63 := Nat.lt_of_le_of_lt (Nat.pow_le_pow_right (by decide) h) (by decide)
theorem own_bj {n k j : Nat} (hk : own_dl n k) (hn : n < 2 ^ 63) (h1 : 1 ≤ j) (h2 : j ≤ 18) : bI (¬ Int64.ofNat n < own_p j) = bI (j < k) := by
  have e : (Int64.ofNat n < own_p j) ↔ k ≤ j := by
    unfold own_p
    rw [Int64.lt_iff_toInt_lt, own_i64 hn, own_i64 (own_p64 h2), ← own_lenlt hk h1]
    exact Int.ofNat_lt
  by_cases q : j < k
  · have e2 : ¬ (Int64.ofNat n < own_p j) := fun z => by have := e.mp z; omega
    rw [bI_o q, bI_o e2]
  · have e3 : ¬ ¬ (Int64.ofNat n < own_p j) := fun z => z (e.mpr (by omega))
    rw [bI_z q, bI_z e3]
theorem own_jz (v : Int32) {n j : Nat} (h : Int64.ofNat n < own_p j) : v + bI (¬ Int64.ofNat n < own_p j) = v := by
  have e3 : ¬ ¬ (Int64.ofNat n < own_p j) := fun z => z h
  rw [bI_z e3]; exact Int32.add_zero _
theorem own_jo (v : Int32) {n j : Nat} (h : ¬ Int64.ofNat n < own_p j) : v + bI (¬ Int64.ofNat n < own_p j) = v + 1 := by rw [bI_o h]
theorem own_sum : ∀ k : Fin 20, 1 ≤ k.val → (((((((((((((((((((1 : Int32) + bI (1 < k.val)) + bI (2 < k.val)) + bI (3 < k.val)) + bI (4 < k.val)) + bI (5 < k.val)) + bI (6 < k.val)) + bI (7 < k.val)) + bI (8 < k.val)) + bI (9 < k.val)) + bI (10 < k.val)) + bI (11 < k.val)) + bI (12 < k.val)) + bI (13 < k.val)) + bI (14 < k.val)) + bI (15 < k.val)) + bI (16 < k.val)) + bI (17 < k.val)) + bI (18 < k.val)) = Int32.ofNat k.val := by decide +kernel
theorem own_pn34 : plainFor (⟨"com/example/yuletally/yuletally/engine/DigitsGroupedPinLaw", "digitCount", "(J[J)I"⟩ : MethodName) = true := by first | exact plainFor_of_name (by first | (simp [plainName, overriddenIn, x]; done) | decide +kernel) | decide +kernel
theorem ef_1 (m : MethodId) (q0 : Int64) (q1 : Addr) : entryFrame m #[(.long q0), (.ref q1)] 4 = mkF m 0 #[.val (.long q0), .second, .val (.ref q1), .unset] [] := by first | (simp [entryFrame, mkF, argsToLocals, Value.category, maxLocals]; done) | rfl
theorem d1_0 : decode method_3_code 0 = .ok (.iconst 1, 1) := by decide +kernel
theorem d1_1 : decode method_3_code 1 = .ok (.istore_n 3, 1) := by decide +kernel
theorem d1_2 : decode method_3_code 2 = .ok (.lload_n 0, 1) := by decide +kernel
theorem d1_3 : decode method_3_code 3 = .ok (.aload_n 2, 1) := by decide +kernel
theorem d1_4 : decode method_3_code 4 = .ok (.iconst 1, 1) := by decide +kernel
theorem d1_5 : decode method_3_code 5 = .ok (.laload, 1) := by decide +kernel
theorem d1_6 : decode method_3_code 6 = .ok (.lcmp, 1) := by decide +kernel
theorem d1_7 : decode method_3_code 7 = .ok (.ifCond .lt 6, 3) := by decide +kernel
theorem d1_10 : decode method_3_code 10 = .ok (.iinc 3 1, 3) := by decide +kernel
theorem d1_13 : decode method_3_code 13 = .ok (.lload_n 0, 1) := by decide +kernel
theorem d1_14 : decode method_3_code 14 = .ok (.aload_n 2, 1) := by decide +kernel
theorem d1_15 : decode method_3_code 15 = .ok (.iconst 2, 1) := by decide +kernel
theorem d1_16 : decode method_3_code 16 = .ok (.laload, 1) := by decide +kernel
theorem d1_17 : decode method_3_code 17 = .ok (.lcmp, 1) := by decide +kernel
theorem d1_18 : decode method_3_code 18 = .ok (.ifCond .lt 6, 3) := by decide +kernel
theorem d1_21 : decode method_3_code 21 = .ok (.iinc 3 1, 3) := by decide +kernel
theorem d1_24 : decode method_3_code 24 = .ok (.lload_n 0, 1) := by decide +kernel
theorem d1_25 : decode method_3_code 25 = .ok (.aload_n 2, 1) := by decide +kernel
theorem d1_26 : decode method_3_code 26 = .ok (.iconst 3, 1) := by decide +kernel
theorem d1_27 : decode method_3_code 27 = .ok (.laload, 1) := by decide +kernel
theorem d1_28 : decode method_3_code 28 = .ok (.lcmp, 1) := by decide +kernel
theorem d1_29 : decode method_3_code 29 = .ok (.ifCond .lt 6, 3) := by decide +kernel
theorem d1_32 : decode method_3_code 32 = .ok (.iinc 3 1, 3) := by decide +kernel
theorem d1_35 : decode method_3_code 35 = .ok (.lload_n 0, 1) := by decide +kernel
theorem d1_36 : decode method_3_code 36 = .ok (.aload_n 2, 1) := by decide +kernel
theorem d1_37 : decode method_3_code 37 = .ok (.iconst 4, 1) := by decide +kernel
theorem d1_38 : decode method_3_code 38 = .ok (.laload, 1) := by decide +kernel
theorem d1_39 : decode method_3_code 39 = .ok (.lcmp, 1) := by decide +kernel
theorem d1_40 : decode method_3_code 40 = .ok (.ifCond .lt 6, 3) := by decide +kernel
theorem d1_43 : decode method_3_code 43 = .ok (.iinc 3 1, 3) := by decide +kernel
theorem d1_46 : decode method_3_code 46 = .ok (.lload_n 0, 1) := by decide +kernel
theorem d1_47 : decode method_3_code 47 = .ok (.aload_n 2, 1) := by decide +kernel
theorem d1_48 : decode method_3_code 48 = .ok (.iconst 5, 1) := by decide +kernel
theorem d1_49 : decode method_3_code 49 = .ok (.laload, 1) := by decide +kernel
theorem d1_50 : decode method_3_code 50 = .ok (.lcmp, 1) := by decide +kernel
theorem d1_51 : decode method_3_code 51 = .ok (.ifCond .lt 6, 3) := by decide +kernel
theorem d1_54 : decode method_3_code 54 = .ok (.iinc 3 1, 3) := by decide +kernel
theorem d1_57 : decode method_3_code 57 = .ok (.lload_n 0, 1) := by decide +kernel
theorem d1_58 : decode method_3_code 58 = .ok (.aload_n 2, 1) := by decide +kernel
theorem d1_59 : decode method_3_code 59 = .ok (.bipush 6, 2) := by decide +kernel
theorem d1_61 : decode method_3_code 61 = .ok (.laload, 1) := by decide +kernel
theorem d1_62 : decode method_3_code 62 = .ok (.lcmp, 1) := by decide +kernel
theorem d1_63 : decode method_3_code 63 = .ok (.ifCond .lt 6, 3) := by decide +kernel
theorem d1_66 : decode method_3_code 66 = .ok (.iinc 3 1, 3) := by decide +kernel
theorem d1_69 : decode method_3_code 69 = .ok (.lload_n 0, 1) := by decide +kernel
theorem d1_70 : decode method_3_code 70 = .ok (.aload_n 2, 1) := by decide +kernel
theorem d1_71 : decode method_3_code 71 = .ok (.bipush 7, 2) := by decide +kernel
theorem d1_73 : decode method_3_code 73 = .ok (.laload, 1) := by decide +kernel
theorem d1_74 : decode method_3_code 74 = .ok (.lcmp, 1) := by decide +kernel
theorem d1_75 : decode method_3_code 75 = .ok (.ifCond .lt 6, 3) := by decide +kernel
theorem d1_78 : decode method_3_code 78 = .ok (.iinc 3 1, 3) := by decide +kernel
theorem d1_81 : decode method_3_code 81 = .ok (.lload_n 0, 1) := by decide +kernel
theorem d1_82 : decode method_3_code 82 = .ok (.aload_n 2, 1) := by decide +kernel
theorem d1_83 : decode method_3_code 83 = .ok (.bipush 8, 2) := by decide +kernel
theorem d1_85 : decode method_3_code 85 = .ok (.laload, 1) := by decide +kernel
theorem d1_86 : decode method_3_code 86 = .ok (.lcmp, 1) := by decide +kernel
theorem d1_87 : decode method_3_code 87 = .ok (.ifCond .lt 6, 3) := by decide +kernel
theorem d1_90 : decode method_3_code 90 = .ok (.iinc 3 1, 3) := by decide +kernel
theorem d1_93 : decode method_3_code 93 = .ok (.lload_n 0, 1) := by decide +kernel
theorem d1_94 : decode method_3_code 94 = .ok (.aload_n 2, 1) := by decide +kernel
theorem d1_95 : decode method_3_code 95 = .ok (.bipush 9, 2) := by decide +kernel
theorem d1_97 : decode method_3_code 97 = .ok (.laload, 1) := by decide +kernel
theorem d1_98 : decode method_3_code 98 = .ok (.lcmp, 1) := by decide +kernel
theorem d1_99 : decode method_3_code 99 = .ok (.ifCond .lt 6, 3) := by decide +kernel
theorem d1_102 : decode method_3_code 102 = .ok (.iinc 3 1, 3) := by decide +kernel
theorem d1_105 : decode method_3_code 105 = .ok (.lload_n 0, 1) := by decide +kernel
theorem d1_106 : decode method_3_code 106 = .ok (.aload_n 2, 1) := by decide +kernel
theorem d1_107 : decode method_3_code 107 = .ok (.bipush 10, 2) := by decide +kernel
theorem d1_109 : decode method_3_code 109 = .ok (.laload, 1) := by decide +kernel
theorem d1_110 : decode method_3_code 110 = .ok (.lcmp, 1) := by decide +kernel
theorem d1_111 : decode method_3_code 111 = .ok (.ifCond .lt 6, 3) := by decide +kernel
theorem d1_114 : decode method_3_code 114 = .ok (.iinc 3 1, 3) := by decide +kernel
theorem d1_117 : decode method_3_code 117 = .ok (.lload_n 0, 1) := by decide +kernel
theorem d1_118 : decode method_3_code 118 = .ok (.aload_n 2, 1) := by decide +kernel
theorem d1_119 : decode method_3_code 119 = .ok (.bipush 11, 2) := by decide +kernel
theorem d1_121 : decode method_3_code 121 = .ok (.laload, 1) := by decide +kernel
theorem d1_122 : decode method_3_code 122 = .ok (.lcmp, 1) := by decide +kernel
theorem d1_123 : decode method_3_code 123 = .ok (.ifCond .lt 6, 3) := by decide +kernel
theorem d1_126 : decode method_3_code 126 = .ok (.iinc 3 1, 3) := by decide +kernel
theorem d1_129 : decode method_3_code 129 = .ok (.lload_n 0, 1) := by decide +kernel
theorem d1_130 : decode method_3_code 130 = .ok (.aload_n 2, 1) := by decide +kernel
theorem d1_131 : decode method_3_code 131 = .ok (.bipush 12, 2) := by decide +kernel
theorem d1_133 : decode method_3_code 133 = .ok (.laload, 1) := by decide +kernel
theorem d1_134 : decode method_3_code 134 = .ok (.lcmp, 1) := by decide +kernel
theorem d1_135 : decode method_3_code 135 = .ok (.ifCond .lt 6, 3) := by decide +kernel
theorem d1_138 : decode method_3_code 138 = .ok (.iinc 3 1, 3) := by decide +kernel
theorem d1_141 : decode method_3_code 141 = .ok (.lload_n 0, 1) := by decide +kernel
theorem d1_142 : decode method_3_code 142 = .ok (.aload_n 2, 1) := by decide +kernel
theorem d1_143 : decode method_3_code 143 = .ok (.bipush 13, 2) := by decide +kernel
theorem d1_145 : decode method_3_code 145 = .ok (.laload, 1) := by decide +kernel
theorem d1_146 : decode method_3_code 146 = .ok (.lcmp, 1) := by decide +kernel
theorem d1_147 : decode method_3_code 147 = .ok (.ifCond .lt 6, 3) := by decide +kernel
theorem d1_150 : decode method_3_code 150 = .ok (.iinc 3 1, 3) := by decide +kernel
theorem d1_153 : decode method_3_code 153 = .ok (.lload_n 0, 1) := by decide +kernel
theorem d1_154 : decode method_3_code 154 = .ok (.aload_n 2, 1) := by decide +kernel
theorem d1_155 : decode method_3_code 155 = .ok (.bipush 14, 2) := by decide +kernel
theorem d1_157 : decode method_3_code 157 = .ok (.laload, 1) := by decide +kernel
theorem d1_158 : decode method_3_code 158 = .ok (.lcmp, 1) := by decide +kernel
theorem d1_159 : decode method_3_code 159 = .ok (.ifCond .lt 6, 3) := by decide +kernel
theorem d1_162 : decode method_3_code 162 = .ok (.iinc 3 1, 3) := by decide +kernel
theorem d1_165 : decode method_3_code 165 = .ok (.lload_n 0, 1) := by decide +kernel
theorem d1_166 : decode method_3_code 166 = .ok (.aload_n 2, 1) := by decide +kernel
theorem d1_167 : decode method_3_code 167 = .ok (.bipush 15, 2) := by decide +kernel
theorem d1_169 : decode method_3_code 169 = .ok (.laload, 1) := by decide +kernel
theorem d1_170 : decode method_3_code 170 = .ok (.lcmp, 1) := by decide +kernel
theorem d1_171 : decode method_3_code 171 = .ok (.ifCond .lt 6, 3) := by decide +kernel
theorem d1_174 : decode method_3_code 174 = .ok (.iinc 3 1, 3) := by decide +kernel
theorem d1_177 : decode method_3_code 177 = .ok (.lload_n 0, 1) := by decide +kernel
theorem d1_178 : decode method_3_code 178 = .ok (.aload_n 2, 1) := by decide +kernel
theorem d1_179 : decode method_3_code 179 = .ok (.bipush 16, 2) := by decide +kernel
theorem d1_181 : decode method_3_code 181 = .ok (.laload, 1) := by decide +kernel
theorem d1_182 : decode method_3_code 182 = .ok (.lcmp, 1) := by decide +kernel
theorem d1_183 : decode method_3_code 183 = .ok (.ifCond .lt 6, 3) := by decide +kernel
theorem d1_186 : decode method_3_code 186 = .ok (.iinc 3 1, 3) := by decide +kernel
theorem d1_189 : decode method_3_code 189 = .ok (.lload_n 0, 1) := by decide +kernel
theorem d1_190 : decode method_3_code 190 = .ok (.aload_n 2, 1) := by decide +kernel
theorem d1_191 : decode method_3_code 191 = .ok (.bipush 17, 2) := by decide +kernel
theorem d1_193 : decode method_3_code 193 = .ok (.laload, 1) := by decide +kernel
theorem d1_194 : decode method_3_code 194 = .ok (.lcmp, 1) := by decide +kernel
theorem d1_195 : decode method_3_code 195 = .ok (.ifCond .lt 6, 3) := by decide +kernel
theorem d1_198 : decode method_3_code 198 = .ok (.iinc 3 1, 3) := by decide +kernel
theorem d1_201 : decode method_3_code 201 = .ok (.lload_n 0, 1) := by decide +kernel
theorem d1_202 : decode method_3_code 202 = .ok (.aload_n 2, 1) := by decide +kernel
theorem d1_203 : decode method_3_code 203 = .ok (.bipush 18, 2) := by decide +kernel
theorem d1_205 : decode method_3_code 205 = .ok (.laload, 1) := by decide +kernel
theorem d1_206 : decode method_3_code 206 = .ok (.lcmp, 1) := by decide +kernel
theorem d1_207 : decode method_3_code 207 = .ok (.ifCond .lt 6, 3) := by decide +kernel
theorem d1_210 : decode method_3_code 210 = .ok (.iinc 3 1, 3) := by decide +kernel
theorem d1_213 : decode method_3_code 213 = .ok (.iload_n 3, 1) := by decide +kernel
theorem d1_214 : decode method_3_code 214 = .ok (.ireturn, 1) := by decide +kernel
set_option maxRecDepth 65536 in
set_option maxHeartbeats 40000000 in
theorem own_c1 (l : Launch) (Z : State) (a0 : Array Value) (hw : ∀ d ∈ tables_1, d.before a0 Z = true) (n k : Nat) (hn : n < 2 ^ 63) (hk : own_dl n k) (P : Addr) (h0 : Heap) (AP : ArF Z h0 P .long 19 (fun j => .long (own_p j))) :
    Con l Z (⟨"com/example/yuletally/yuletally/engine/DigitsGroupedPinLaw", "digitCount", "(J[J)I"⟩ : MethodName) method_3_code 4 (some .int) [] ({ frames := 0, cells := 0, slots := 0, locals := 0 } : Room) 0 0 #[(.long (Int64.ofNat n)), (.ref P)] h0 (fun r h L => r = some (.int (Int32.ofNat k)) ∧ h = h0 ∧ L = []) := by
  refine Con.of own_pn34 ?_
  intro pg ev s_ m bl mt cd s₁ hx hby hml hown hnm hret hlk hZ X0 e0
  rw [ef_1]
  show Gd _ _ _ _ (s₁.setTop (mkF m 0 #[.val (.long (Int64.ofNat n)), .second, .val (.ref P), .unset] []))
  refine Gd.go (fun _ w_k => XS.iconst X0.here hx rfl (hb hby d1_0) w_k) ?_
  show Gd _ _ _ _ (s₁.setTop (mkF m 1 #[.val (.long (Int64.ofNat n)), .second, .val (.ref P), .unset] [(.int (1 : Int32))]))
  refine Gd.go (fun _ w_k => XS.istoreN X0.here hx rfl (hb hby d1_1) rfl (l' := #[.val (.long (Int64.ofNat n)), .second, .val (.ref P), .val (.int (1 : Int32))]) rfl w_k) ?_
  show Gd _ _ _ _ (s₁.setTop (mkF m 2 #[.val (.long (Int64.ofNat n)), .second, .val (.ref P), .val (.int (1 : Int32))] []))
  refine Gd.via (S' := s₁.setTop (mkF m 13 #[.val (.long (Int64.ofNat n)), .second, .val (.ref P), .val (.int ((1 : Int32) + bI (¬ Int64.ofNat n < own_p 1)))] [])) (fun J1 => ?_) ?_
  · refine Gd.go (fun _ w_k => XS.lloadN X0.here hx rfl (hb hby d1_2) rfl w_k) ?_
    show Gd _ _ _ _ (s₁.setTop (mkF m 3 #[.val (.long (Int64.ofNat n)), .second, .val (.ref P), .val (.int (1 : Int32))] [(.long (Int64.ofNat n))]))
    refine Gd.go (fun _ w_k => XS.aloadN X0.here hx rfl (hb hby d1_3) rfl rfl w_k) ?_
    show Gd _ _ _ _ (s₁.setTop (mkF m 4 #[.val (.long (Int64.ofNat n)), .second, .val (.ref P), .val (.int (1 : Int32))] [(.ref P), (.long (Int64.ofNat n))]))
    refine Gd.go (fun _ w_k => XS.iconst X0.here hx rfl (hb hby d1_4) w_k) ?_
    show Gd _ _ _ _ (s₁.setTop (mkF m 5 #[.val (.long (Int64.ofNat n)), .second, .val (.ref P), .val (.int (1 : Int32))] [(.int (1 : Int32)), (.ref P), (.long (Int64.ofNat n))]))
    refine Gd.go (fun _ w_k => own_ldJ X0 hx hZ e0 AP (j := (1 : Int32)) (by decide) (by decide) (v := (.long (own_p 1))) rfl (g := (mkF m 5 #[.val (.long (Int64.ofNat n)), .second, .val (.ref P), .val (.int (1 : Int32))] [(.int (1 : Int32)), (.ref P), (.long (Int64.ofNat n))])) rfl rfl (hb hby d1_5) _ w_k) ?_
    show Gd _ _ _ _ (s₁.setTop (mkF m 6 #[.val (.long (Int64.ofNat n)), .second, .val (.ref P), .val (.int (1 : Int32))] [(.long (own_p 1)), (.long (Int64.ofNat n))]))
    refine Gd.go (fun _ w_k => XS.lcmp X0.here hx rfl (hb hby d1_6) rfl w_k) ?_
    show Gd _ _ _ _ (s₁.setTop (mkF m 7 #[.val (.long (Int64.ofNat n)), .second, .val (.ref P), .val (.int (1 : Int32))] [(.int (lcmpW (Int64.ofNat n) (own_p 1)))]))
    by_cases hc2 : (Int64.ofNat n) < (own_p 1)
    · refine Gd.go (fun _ w_k => XS.ifYes X0.here hx rfl (pc0 := 7) (pc' := 13) rfl (hb hby d1_7) rfl ((if0 _ _).trans (tlt ((lw_lt _ _).mpr hc2)).1) (by decide) (by decide) w_k) ?_
      show Gd _ _ _ _ (s₁.setTop (mkF m 13 #[.val (.long (Int64.ofNat n)), .second, .val (.ref P), .val (.int (1 : Int32))] []))
      have q3 : ((1 : Int32) + bI (¬ Int64.ofNat n < own_p 1)) = (1 : Int32) := own_jz _ hc2
      rw [q3] at J1
      exact J1
    · refine Gd.go (fun _ w_k => XS.ifNo X0.here hx rfl (hb hby d1_7) rfl ((if0 _ _).trans (flt (fun q => hc2 ((lw_lt _ _).mp q))).1) w_k) ?_
      show Gd _ _ _ _ (s₁.setTop (mkF m 10 #[.val (.long (Int64.ofNat n)), .second, .val (.ref P), .val (.int (1 : Int32))] []))
      refine Gd.go (fun _ w_k => XS.iinc X0.here hx rfl (hb hby d1_10) rfl (l' := #[.val (.long (Int64.ofNat n)), .second, .val (.ref P), .val (.int ((1 : Int32) + (1 : Int32)))]) rfl w_k) ?_
      show Gd _ _ _ _ (s₁.setTop (mkF m 13 #[.val (.long (Int64.ofNat n)), .second, .val (.ref P), .val (.int ((1 : Int32) + (1 : Int32)))] []))
      have q4 : ((1 : Int32) + bI (¬ Int64.ofNat n < own_p 1)) = ((1 : Int32) + (1 : Int32)) := own_jo _ hc2
      rw [q4] at J1
      exact J1
  show Gd _ _ _ _ (s₁.setTop (mkF m 13 #[.val (.long (Int64.ofNat n)), .second, .val (.ref P), .val (.int ((1 : Int32) + bI (¬ Int64.ofNat n < own_p 1)))] []))
  refine Gd.via (S' := s₁.setTop (mkF m 24 #[.val (.long (Int64.ofNat n)), .second, .val (.ref P), .val (.int (((1 : Int32) + bI (¬ Int64.ofNat n < own_p 1)) + bI (¬ Int64.ofNat n < own_p 2)))] [])) (fun J5 => ?_) ?_
  · refine Gd.go (fun _ w_k => XS.lloadN X0.here hx rfl (hb hby d1_13) rfl w_k) ?_
    show Gd _ _ _ _ (s₁.setTop (mkF m 14 #[.val (.long (Int64.ofNat n)), .second, .val (.ref P), .val (.int ((1 : Int32) + bI (¬ Int64.ofNat n < own_p 1)))] [(.long (Int64.ofNat n))]))
    refine Gd.go (fun _ w_k => XS.aloadN X0.here hx rfl (hb hby d1_14) rfl rfl w_k) ?_
    show Gd _ _ _ _ (s₁.setTop (mkF m 15 #[.val (.long (Int64.ofNat n)), .second, .val (.ref P), .val (.int ((1 : Int32) + bI (¬ Int64.ofNat n < own_p 1)))] [(.ref P), (.long (Int64.ofNat n))]))
    refine Gd.go (fun _ w_k => XS.iconst X0.here hx rfl (hb hby d1_15) w_k) ?_
    show Gd _ _ _ _ (s₁.setTop (mkF m 16 #[.val (.long (Int64.ofNat n)), .second, .val (.ref P), .val (.int ((1 : Int32) + bI (¬ Int64.ofNat n < own_p 1)))] [(.int (2 : Int32)), (.ref P), (.long (Int64.ofNat n))]))
    refine Gd.go (fun _ w_k => own_ldJ X0 hx hZ e0 AP (j := (2 : Int32)) (by decide) (by decide) (v := (.long (own_p 2))) rfl (g := (mkF m 16 #[.val (.long (Int64.ofNat n)), .second, .val (.ref P), .val (.int ((1 : Int32) + bI (¬ Int64.ofNat n < own_p 1)))] [(.int (2 : Int32)), (.ref P), (.long (Int64.ofNat n))])) rfl rfl (hb hby d1_16) _ w_k) ?_
    show Gd _ _ _ _ (s₁.setTop (mkF m 17 #[.val (.long (Int64.ofNat n)), .second, .val (.ref P), .val (.int ((1 : Int32) + bI (¬ Int64.ofNat n < own_p 1)))] [(.long (own_p 2)), (.long (Int64.ofNat n))]))
    refine Gd.go (fun _ w_k => XS.lcmp X0.here hx rfl (hb hby d1_17) rfl w_k) ?_
    show Gd _ _ _ _ (s₁.setTop (mkF m 18 #[.val (.long (Int64.ofNat n)), .second, .val (.ref P), .val (.int ((1 : Int32) + bI (¬ Int64.ofNat n < own_p 1)))] [(.int (lcmpW (Int64.ofNat n) (own_p 2)))]))
    by_cases hc6 : (Int64.ofNat n) < (own_p 2)
    · refine Gd.go (fun _ w_k => XS.ifYes X0.here hx rfl (pc0 := 18) (pc' := 24) rfl (hb hby d1_18) rfl ((if0 _ _).trans (tlt ((lw_lt _ _).mpr hc6)).1) (by decide) (by decide) w_k) ?_
      show Gd _ _ _ _ (s₁.setTop (mkF m 24 #[.val (.long (Int64.ofNat n)), .second, .val (.ref P), .val (.int ((1 : Int32) + bI (¬ Int64.ofNat n < own_p 1)))] []))
      have q7 : (((1 : Int32) + bI (¬ Int64.ofNat n < own_p 1)) + bI (¬ Int64.ofNat n < own_p 2)) = ((1 : Int32) + bI (¬ Int64.ofNat n < own_p 1)) := own_jz _ hc6
      rw [q7] at J5
      exact J5
    · refine Gd.go (fun _ w_k => XS.ifNo X0.here hx rfl (hb hby d1_18) rfl ((if0 _ _).trans (flt (fun q => hc6 ((lw_lt _ _).mp q))).1) w_k) ?_
      show Gd _ _ _ _ (s₁.setTop (mkF m 21 #[.val (.long (Int64.ofNat n)), .second, .val (.ref P), .val (.int ((1 : Int32) + bI (¬ Int64.ofNat n < own_p 1)))] []))
      refine Gd.go (fun _ w_k => XS.iinc X0.here hx rfl (hb hby d1_21) rfl (l' := #[.val (.long (Int64.ofNat n)), .second, .val (.ref P), .val (.int (((1 : Int32) + bI (¬ Int64.ofNat n < own_p 1)) + (1 : Int32)))]) rfl w_k) ?_
      show Gd _ _ _ _ (s₁.setTop (mkF m 24 #[.val (.long (Int64.ofNat n)), .second, .val (.ref P), .val (.int (((1 : Int32) + bI (¬ Int64.ofNat n < own_p 1)) + (1 : Int32)))] []))
      have q8 : (((1 : Int32) + bI (¬ Int64.ofNat n < own_p 1)) + bI (¬ Int64.ofNat n < own_p 2)) = (((1 : Int32) + bI (¬ Int64.ofNat n < own_p 1)) + (1 : Int32)) := own_jo _ hc6
      rw [q8] at J5
      exact J5
  show Gd _ _ _ _ (s₁.setTop (mkF m 24 #[.val (.long (Int64.ofNat n)), .second, .val (.ref P), .val (.int (((1 : Int32) + bI (¬ Int64.ofNat n < own_p 1)) + bI (¬ Int64.ofNat n < own_p 2)))] []))
  refine Gd.via (S' := s₁.setTop (mkF m 35 #[.val (.long (Int64.ofNat n)), .second, .val (.ref P), .val (.int ((((1 : Int32) + bI (¬ Int64.ofNat n < own_p 1)) + bI (¬ Int64.ofNat n < own_p 2)) + bI (¬ Int64.ofNat n < own_p 3)))] [])) (fun J9 => ?_) ?_
  · refine Gd.go (fun _ w_k => XS.lloadN X0.here hx rfl (hb hby d1_24) rfl w_k) ?_
    show Gd _ _ _ _ (s₁.setTop (mkF m 25 #[.val (.long (Int64.ofNat n)), .second, .val (.ref P), .val (.int (((1 : Int32) + bI (¬ Int64.ofNat n < own_p 1)) + bI (¬ Int64.ofNat n < own_p 2)))] [(.long (Int64.ofNat n))]))
    refine Gd.go (fun _ w_k => XS.aloadN X0.here hx rfl (hb hby d1_25) rfl rfl w_k) ?_
    show Gd _ _ _ _ (s₁.setTop (mkF m 26 #[.val (.long (Int64.ofNat n)), .second, .val (.ref P), .val (.int (((1 : Int32) + bI (¬ Int64.ofNat n < own_p 1)) + bI (¬ Int64.ofNat n < own_p 2)))] [(.ref P), (.long (Int64.ofNat n))]))
    refine Gd.go (fun _ w_k => XS.iconst X0.here hx rfl (hb hby d1_26) w_k) ?_
    show Gd _ _ _ _ (s₁.setTop (mkF m 27 #[.val (.long (Int64.ofNat n)), .second, .val (.ref P), .val (.int (((1 : Int32) + bI (¬ Int64.ofNat n < own_p 1)) + bI (¬ Int64.ofNat n < own_p 2)))] [(.int (3 : Int32)), (.ref P), (.long (Int64.ofNat n))]))
    refine Gd.go (fun _ w_k => own_ldJ X0 hx hZ e0 AP (j := (3 : Int32)) (by decide) (by decide) (v := (.long (own_p 3))) rfl (g := (mkF m 27 #[.val (.long (Int64.ofNat n)), .second, .val (.ref P), .val (.int (((1 : Int32) + bI (¬ Int64.ofNat n < own_p 1)) + bI (¬ Int64.ofNat n < own_p 2)))] [(.int (3 : Int32)), (.ref P), (.long (Int64.ofNat n))])) rfl rfl (hb hby d1_27) _ w_k) ?_
    show Gd _ _ _ _ (s₁.setTop (mkF m 28 #[.val (.long (Int64.ofNat n)), .second, .val (.ref P), .val (.int (((1 : Int32) + bI (¬ Int64.ofNat n < own_p 1)) + bI (¬ Int64.ofNat n < own_p 2)))] [(.long (own_p 3)), (.long (Int64.ofNat n))]))
    refine Gd.go (fun _ w_k => XS.lcmp X0.here hx rfl (hb hby d1_28) rfl w_k) ?_
    show Gd _ _ _ _ (s₁.setTop (mkF m 29 #[.val (.long (Int64.ofNat n)), .second, .val (.ref P), .val (.int (((1 : Int32) + bI (¬ Int64.ofNat n < own_p 1)) + bI (¬ Int64.ofNat n < own_p 2)))] [(.int (lcmpW (Int64.ofNat n) (own_p 3)))]))
    by_cases hc10 : (Int64.ofNat n) < (own_p 3)
    · refine Gd.go (fun _ w_k => XS.ifYes X0.here hx rfl (pc0 := 29) (pc' := 35) rfl (hb hby d1_29) rfl ((if0 _ _).trans (tlt ((lw_lt _ _).mpr hc10)).1) (by decide) (by decide) w_k) ?_
      show Gd _ _ _ _ (s₁.setTop (mkF m 35 #[.val (.long (Int64.ofNat n)), .second, .val (.ref P), .val (.int (((1 : Int32) + bI (¬ Int64.ofNat n < own_p 1)) + bI (¬ Int64.ofNat n < own_p 2)))] []))
      have q11 : ((((1 : Int32) + bI (¬ Int64.ofNat n < own_p 1)) + bI (¬ Int64.ofNat n < own_p 2)) + bI (¬ Int64.ofNat n < own_p 3)) = (((1 : Int32) + bI (¬ Int64.ofNat n < own_p 1)) + bI (¬ Int64.ofNat n < own_p 2)) := own_jz _ hc10
      rw [q11] at J9
      exact J9
    · refine Gd.go (fun _ w_k => XS.ifNo X0.here hx rfl (hb hby d1_29) rfl ((if0 _ _).trans (flt (fun q => hc10 ((lw_lt _ _).mp q))).1) w_k) ?_
      show Gd _ _ _ _ (s₁.setTop (mkF m 32 #[.val (.long (Int64.ofNat n)), .second, .val (.ref P), .val (.int (((1 : Int32) + bI (¬ Int64.ofNat n < own_p 1)) + bI (¬ Int64.ofNat n < own_p 2)))] []))
      refine Gd.go (fun _ w_k => XS.iinc X0.here hx rfl (hb hby d1_32) rfl (l' := #[.val (.long (Int64.ofNat n)), .second, .val (.ref P), .val (.int ((((1 : Int32) + bI (¬ Int64.ofNat n < own_p 1)) + bI (¬ Int64.ofNat n < own_p 2)) + (1 : Int32)))]) rfl w_k) ?_
      show Gd _ _ _ _ (s₁.setTop (mkF m 35 #[.val (.long (Int64.ofNat n)), .second, .val (.ref P), .val (.int ((((1 : Int32) + bI (¬ Int64.ofNat n < own_p 1)) + bI (¬ Int64.ofNat n < own_p 2)) + (1 : Int32)))] []))
      have q12 : ((((1 : Int32) + bI (¬ Int64.ofNat n < own_p 1)) + bI (¬ Int64.ofNat n < own_p 2)) + bI (¬ Int64.ofNat n < own_p 3)) = ((((1 : Int32) + bI (¬ Int64.ofNat n < own_p 1)) + bI (¬ Int64.ofNat n < own_p 2)) + (1 : Int32)) := own_jo _ hc10
      rw [q12] at J9
      exact J9
  show Gd _ _ _ _ (s₁.setTop (mkF m 35 #[.val (.long (Int64.ofNat n)), .second, .val (.ref P), .val (.int ((((1 : Int32) + bI (¬ Int64.ofNat n < own_p 1)) + bI (¬ Int64.ofNat n < own_p 2)) + bI (¬ Int64.ofNat n < own_p 3)))] []))
  refine Gd.via (S' := s₁.setTop (mkF m 46 #[.val (.long (Int64.ofNat n)), .second, .val (.ref P), .val (.int (((((1 : Int32) + bI (¬ Int64.ofNat n < own_p 1)) + bI (¬ Int64.ofNat n < own_p 2)) + bI (¬ Int64.ofNat n < own_p 3)) + bI (¬ Int64.ofNat n < own_p 4)))] [])) (fun J13 => ?_) ?_
  · refine Gd.go (fun _ w_k => XS.lloadN X0.here hx rfl (hb hby d1_35) rfl w_k) ?_
    show Gd _ _ _ _ (s₁.setTop (mkF m 36 #[.val (.long (Int64.ofNat n)), .second, .val (.ref P), .val (.int ((((1 : Int32) + bI (¬ Int64.ofNat n < own_p 1)) + bI (¬ Int64.ofNat n < own_p 2)) + bI (¬ Int64.ofNat n < own_p 3)))] [(.long (Int64.ofNat n))]))
    refine Gd.go (fun _ w_k => XS.aloadN X0.here hx rfl (hb hby d1_36) rfl rfl w_k) ?_
    show Gd _ _ _ _ (s₁.setTop (mkF m 37 #[.val (.long (Int64.ofNat n)), .second, .val (.ref P), .val (.int ((((1 : Int32) + bI (¬ Int64.ofNat n < own_p 1)) + bI (¬ Int64.ofNat n < own_p 2)) + bI (¬ Int64.ofNat n < own_p 3)))] [(.ref P), (.long (Int64.ofNat n))]))
    refine Gd.go (fun _ w_k => XS.iconst X0.here hx rfl (hb hby d1_37) w_k) ?_
    show Gd _ _ _ _ (s₁.setTop (mkF m 38 #[.val (.long (Int64.ofNat n)), .second, .val (.ref P), .val (.int ((((1 : Int32) + bI (¬ Int64.ofNat n < own_p 1)) + bI (¬ Int64.ofNat n < own_p 2)) + bI (¬ Int64.ofNat n < own_p 3)))] [(.int (4 : Int32)), (.ref P), (.long (Int64.ofNat n))]))
    refine Gd.go (fun _ w_k => own_ldJ X0 hx hZ e0 AP (j := (4 : Int32)) (by decide) (by decide) (v := (.long (own_p 4))) rfl (g := (mkF m 38 #[.val (.long (Int64.ofNat n)), .second, .val (.ref P), .val (.int ((((1 : Int32) + bI (¬ Int64.ofNat n < own_p 1)) + bI (¬ Int64.ofNat n < own_p 2)) + bI (¬ Int64.ofNat n < own_p 3)))] [(.int (4 : Int32)), (.ref P), (.long (Int64.ofNat n))])) rfl rfl (hb hby d1_38) _ w_k) ?_
    show Gd _ _ _ _ (s₁.setTop (mkF m 39 #[.val (.long (Int64.ofNat n)), .second, .val (.ref P), .val (.int ((((1 : Int32) + bI (¬ Int64.ofNat n < own_p 1)) + bI (¬ Int64.ofNat n < own_p 2)) + bI (¬ Int64.ofNat n < own_p 3)))] [(.long (own_p 4)), (.long (Int64.ofNat n))]))
    refine Gd.go (fun _ w_k => XS.lcmp X0.here hx rfl (hb hby d1_39) rfl w_k) ?_
    show Gd _ _ _ _ (s₁.setTop (mkF m 40 #[.val (.long (Int64.ofNat n)), .second, .val (.ref P), .val (.int ((((1 : Int32) + bI (¬ Int64.ofNat n < own_p 1)) + bI (¬ Int64.ofNat n < own_p 2)) + bI (¬ Int64.ofNat n < own_p 3)))] [(.int (lcmpW (Int64.ofNat n) (own_p 4)))]))
    by_cases hc14 : (Int64.ofNat n) < (own_p 4)
    · refine Gd.go (fun _ w_k => XS.ifYes X0.here hx rfl (pc0 := 40) (pc' := 46) rfl (hb hby d1_40) rfl ((if0 _ _).trans (tlt ((lw_lt _ _).mpr hc14)).1) (by decide) (by decide) w_k) ?_
      show Gd _ _ _ _ (s₁.setTop (mkF m 46 #[.val (.long (Int64.ofNat n)), .second, .val (.ref P), .val (.int ((((1 : Int32) + bI (¬ Int64.ofNat n < own_p 1)) + bI (¬ Int64.ofNat n < own_p 2)) + bI (¬ Int64.ofNat n < own_p 3)))] []))
      have q15 : (((((1 : Int32) + bI (¬ Int64.ofNat n < own_p 1)) + bI (¬ Int64.ofNat n < own_p 2)) + bI (¬ Int64.ofNat n < own_p 3)) + bI (¬ Int64.ofNat n < own_p 4)) = ((((1 : Int32) + bI (¬ Int64.ofNat n < own_p 1)) + bI (¬ Int64.ofNat n < own_p 2)) + bI (¬ Int64.ofNat n < own_p 3)) := own_jz _ hc14
      rw [q15] at J13
      exact J13
    · refine Gd.go (fun _ w_k => XS.ifNo X0.here hx rfl (hb hby d1_40) rfl ((if0 _ _).trans (flt (fun q => hc14 ((lw_lt _ _).mp q))).1) w_k) ?_
      show Gd _ _ _ _ (s₁.setTop (mkF m 43 #[.val (.long (Int64.ofNat n)), .second, .val (.ref P), .val (.int ((((1 : Int32) + bI (¬ Int64.ofNat n < own_p 1)) + bI (¬ Int64.ofNat n < own_p 2)) + bI (¬ Int64.ofNat n < own_p 3)))] []))
      refine Gd.go (fun _ w_k => XS.iinc X0.here hx rfl (hb hby d1_43) rfl (l' := #[.val (.long (Int64.ofNat n)), .second, .val (.ref P), .val (.int (((((1 : Int32) + bI (¬ Int64.ofNat n < own_p 1)) + bI (¬ Int64.ofNat n < own_p 2)) + bI (¬ Int64.ofNat n < own_p 3)) + (1 : Int32)))]) rfl w_k) ?_
      show Gd _ _ _ _ (s₁.setTop (mkF m 46 #[.val (.long (Int64.ofNat n)), .second, .val (.ref P), .val (.int (((((1 : Int32) + bI (¬ Int64.ofNat n < own_p 1)) + bI (¬ Int64.ofNat n < own_p 2)) + bI (¬ Int64.ofNat n < own_p 3)) + (1 : Int32)))] []))
      have q16 : (((((1 : Int32) + bI (¬ Int64.ofNat n < own_p 1)) + bI (¬ Int64.ofNat n < own_p 2)) + bI (¬ Int64.ofNat n < own_p 3)) + bI (¬ Int64.ofNat n < own_p 4)) = (((((1 : Int32) + bI (¬ Int64.ofNat n < own_p 1)) + bI (¬ Int64.ofNat n < own_p 2)) + bI (¬ Int64.ofNat n < own_p 3)) + (1 : Int32)) := own_jo _ hc14
      rw [q16] at J13
      exact J13
  show Gd _ _ _ _ (s₁.setTop (mkF m 46 #[.val (.long (Int64.ofNat n)), .second, .val (.ref P), .val (.int (((((1 : Int32) + bI (¬ Int64.ofNat n < own_p 1)) + bI (¬ Int64.ofNat n < own_p 2)) + bI (¬ Int64.ofNat n < own_p 3)) + bI (¬ Int64.ofNat n < own_p 4)))] []))
  refine Gd.via (S' := s₁.setTop (mkF m 57 #[.val (.long (Int64.ofNat n)), .second, .val (.ref P), .val (.int ((((((1 : Int32) + bI (¬ Int64.ofNat n < own_p 1)) + bI (¬ Int64.ofNat n < own_p 2)) + bI (¬ Int64.ofNat n < own_p 3)) + bI (¬ Int64.ofNat n < own_p 4)) + bI (¬ Int64.ofNat n < own_p 5)))] [])) (fun J17 => ?_) ?_
  · refine Gd.go (fun _ w_k => XS.lloadN X0.here hx rfl (hb hby d1_46) rfl w_k) ?_
    show Gd _ _ _ _ (s₁.setTop (mkF m 47 #[.val (.long (Int64.ofNat n)), .second, .val (.ref P), .val (.int (((((1 : Int32) + bI (¬ Int64.ofNat n < own_p 1)) + bI (¬ Int64.ofNat n < own_p 2)) + bI (¬ Int64.ofNat n < own_p 3)) + bI (¬ Int64.ofNat n < own_p 4)))] [(.long (Int64.ofNat n))]))
    refine Gd.go (fun _ w_k => XS.aloadN X0.here hx rfl (hb hby d1_47) rfl rfl w_k) ?_
    show Gd _ _ _ _ (s₁.setTop (mkF m 48 #[.val (.long (Int64.ofNat n)), .second, .val (.ref P), .val (.int (((((1 : Int32) + bI (¬ Int64.ofNat n < own_p 1)) + bI (¬ Int64.ofNat n < own_p 2)) + bI (¬ Int64.ofNat n < own_p 3)) + bI (¬ Int64.ofNat n < own_p 4)))] [(.ref P), (.long (Int64.ofNat n))]))
    refine Gd.go (fun _ w_k => XS.iconst X0.here hx rfl (hb hby d1_48) w_k) ?_
    show Gd _ _ _ _ (s₁.setTop (mkF m 49 #[.val (.long (Int64.ofNat n)), .second, .val (.ref P), .val (.int (((((1 : Int32) + bI (¬ Int64.ofNat n < own_p 1)) + bI (¬ Int64.ofNat n < own_p 2)) + bI (¬ Int64.ofNat n < own_p 3)) + bI (¬ Int64.ofNat n < own_p 4)))] [(.int (5 : Int32)), (.ref P), (.long (Int64.ofNat n))]))
    refine Gd.go (fun _ w_k => own_ldJ X0 hx hZ e0 AP (j := (5 : Int32)) (by decide) (by decide) (v := (.long (own_p 5))) rfl (g := (mkF m 49 #[.val (.long (Int64.ofNat n)), .second, .val (.ref P), .val (.int (((((1 : Int32) + bI (¬ Int64.ofNat n < own_p 1)) + bI (¬ Int64.ofNat n < own_p 2)) + bI (¬ Int64.ofNat n < own_p 3)) + bI (¬ Int64.ofNat n < own_p 4)))] [(.int (5 : Int32)), (.ref P), (.long (Int64.ofNat n))])) rfl rfl (hb hby d1_49) _ w_k) ?_
    show Gd _ _ _ _ (s₁.setTop (mkF m 50 #[.val (.long (Int64.ofNat n)), .second, .val (.ref P), .val (.int (((((1 : Int32) + bI (¬ Int64.ofNat n < own_p 1)) + bI (¬ Int64.ofNat n < own_p 2)) + bI (¬ Int64.ofNat n < own_p 3)) + bI (¬ Int64.ofNat n < own_p 4)))] [(.long (own_p 5)), (.long (Int64.ofNat n))]))
    refine Gd.go (fun _ w_k => XS.lcmp X0.here hx rfl (hb hby d1_50) rfl w_k) ?_
    show Gd _ _ _ _ (s₁.setTop (mkF m 51 #[.val (.long (Int64.ofNat n)), .second, .val (.ref P), .val (.int (((((1 : Int32) + bI (¬ Int64.ofNat n < own_p 1)) + bI (¬ Int64.ofNat n < own_p 2)) + bI (¬ Int64.ofNat n < own_p 3)) + bI (¬ Int64.ofNat n < own_p 4)))] [(.int (lcmpW (Int64.ofNat n) (own_p 5)))]))
    by_cases hc18 : (Int64.ofNat n) < (own_p 5)
    · refine Gd.go (fun _ w_k => XS.ifYes X0.here hx rfl (pc0 := 51) (pc' := 57) rfl (hb hby d1_51) rfl ((if0 _ _).trans (tlt ((lw_lt _ _).mpr hc18)).1) (by decide) (by decide) w_k) ?_
      show Gd _ _ _ _ (s₁.setTop (mkF m 57 #[.val (.long (Int64.ofNat n)), .second, .val (.ref P), .val (.int (((((1 : Int32) + bI (¬ Int64.ofNat n < own_p 1)) + bI (¬ Int64.ofNat n < own_p 2)) + bI (¬ Int64.ofNat n < own_p 3)) + bI (¬ Int64.ofNat n < own_p 4)))] []))
      have q19 : ((((((1 : Int32) + bI (¬ Int64.ofNat n < own_p 1)) + bI (¬ Int64.ofNat n < own_p 2)) + bI (¬ Int64.ofNat n < own_p 3)) + bI (¬ Int64.ofNat n < own_p 4)) + bI (¬ Int64.ofNat n < own_p 5)) = (((((1 : Int32) + bI (¬ Int64.ofNat n < own_p 1)) + bI (¬ Int64.ofNat n < own_p 2)) + bI (¬ Int64.ofNat n < own_p 3)) + bI (¬ Int64.ofNat n < own_p 4)) := own_jz _ hc18
      rw [q19] at J17
      exact J17
    · refine Gd.go (fun _ w_k => XS.ifNo X0.here hx rfl (hb hby d1_51) rfl ((if0 _ _).trans (flt (fun q => hc18 ((lw_lt _ _).mp q))).1) w_k) ?_
      show Gd _ _ _ _ (s₁.setTop (mkF m 54 #[.val (.long (Int64.ofNat n)), .second, .val (.ref P), .val (.int (((((1 : Int32) + bI (¬ Int64.ofNat n < own_p 1)) + bI (¬ Int64.ofNat n < own_p 2)) + bI (¬ Int64.ofNat n < own_p 3)) + bI (¬ Int64.ofNat n < own_p 4)))] []))
      refine Gd.go (fun _ w_k => XS.iinc X0.here hx rfl (hb hby d1_54) rfl (l' := #[.val (.long (Int64.ofNat n)), .second, .val (.ref P), .val (.int ((((((1 : Int32) + bI (¬ Int64.ofNat n < own_p 1)) + bI (¬ Int64.ofNat n < own_p 2)) + bI (¬ Int64.ofNat n < own_p 3)) + bI (¬ Int64.ofNat n < own_p 4)) + (1 : Int32)))]) rfl w_k) ?_
      show Gd _ _ _ _ (s₁.setTop (mkF m 57 #[.val (.long (Int64.ofNat n)), .second, .val (.ref P), .val (.int ((((((1 : Int32) + bI (¬ Int64.ofNat n < own_p 1)) + bI (¬ Int64.ofNat n < own_p 2)) + bI (¬ Int64.ofNat n < own_p 3)) + bI (¬ Int64.ofNat n < own_p 4)) + (1 : Int32)))] []))
      have q20 : ((((((1 : Int32) + bI (¬ Int64.ofNat n < own_p 1)) + bI (¬ Int64.ofNat n < own_p 2)) + bI (¬ Int64.ofNat n < own_p 3)) + bI (¬ Int64.ofNat n < own_p 4)) + bI (¬ Int64.ofNat n < own_p 5)) = ((((((1 : Int32) + bI (¬ Int64.ofNat n < own_p 1)) + bI (¬ Int64.ofNat n < own_p 2)) + bI (¬ Int64.ofNat n < own_p 3)) + bI (¬ Int64.ofNat n < own_p 4)) + (1 : Int32)) := own_jo _ hc18
      rw [q20] at J17
      exact J17
  show Gd _ _ _ _ (s₁.setTop (mkF m 57 #[.val (.long (Int64.ofNat n)), .second, .val (.ref P), .val (.int ((((((1 : Int32) + bI (¬ Int64.ofNat n < own_p 1)) + bI (¬ Int64.ofNat n < own_p 2)) + bI (¬ Int64.ofNat n < own_p 3)) + bI (¬ Int64.ofNat n < own_p 4)) + bI (¬ Int64.ofNat n < own_p 5)))] []))
  refine Gd.via (S' := s₁.setTop (mkF m 69 #[.val (.long (Int64.ofNat n)), .second, .val (.ref P), .val (.int (((((((1 : Int32) + bI (¬ Int64.ofNat n < own_p 1)) + bI (¬ Int64.ofNat n < own_p 2)) + bI (¬ Int64.ofNat n < own_p 3)) + bI (¬ Int64.ofNat n < own_p 4)) + bI (¬ Int64.ofNat n < own_p 5)) + bI (¬ Int64.ofNat n < own_p 6)))] [])) (fun J21 => ?_) ?_
  · refine Gd.go (fun _ w_k => XS.lloadN X0.here hx rfl (hb hby d1_57) rfl w_k) ?_
    show Gd _ _ _ _ (s₁.setTop (mkF m 58 #[.val (.long (Int64.ofNat n)), .second, .val (.ref P), .val (.int ((((((1 : Int32) + bI (¬ Int64.ofNat n < own_p 1)) + bI (¬ Int64.ofNat n < own_p 2)) + bI (¬ Int64.ofNat n < own_p 3)) + bI (¬ Int64.ofNat n < own_p 4)) + bI (¬ Int64.ofNat n < own_p 5)))] [(.long (Int64.ofNat n))]))
    refine Gd.go (fun _ w_k => XS.aloadN X0.here hx rfl (hb hby d1_58) rfl rfl w_k) ?_
    show Gd _ _ _ _ (s₁.setTop (mkF m 59 #[.val (.long (Int64.ofNat n)), .second, .val (.ref P), .val (.int ((((((1 : Int32) + bI (¬ Int64.ofNat n < own_p 1)) + bI (¬ Int64.ofNat n < own_p 2)) + bI (¬ Int64.ofNat n < own_p 3)) + bI (¬ Int64.ofNat n < own_p 4)) + bI (¬ Int64.ofNat n < own_p 5)))] [(.ref P), (.long (Int64.ofNat n))]))
    refine Gd.go (fun _ w_k => XS.bipush X0.here hx rfl (hb hby d1_59) w_k) ?_
    show Gd _ _ _ _ (s₁.setTop (mkF m 61 #[.val (.long (Int64.ofNat n)), .second, .val (.ref P), .val (.int ((((((1 : Int32) + bI (¬ Int64.ofNat n < own_p 1)) + bI (¬ Int64.ofNat n < own_p 2)) + bI (¬ Int64.ofNat n < own_p 3)) + bI (¬ Int64.ofNat n < own_p 4)) + bI (¬ Int64.ofNat n < own_p 5)))] [(.int (6 : Int32)), (.ref P), (.long (Int64.ofNat n))]))
    refine Gd.go (fun _ w_k => own_ldJ X0 hx hZ e0 AP (j := (6 : Int32)) (by decide) (by decide) (v := (.long (own_p 6))) rfl (g := (mkF m 61 #[.val (.long (Int64.ofNat n)), .second, .val (.ref P), .val (.int ((((((1 : Int32) + bI (¬ Int64.ofNat n < own_p 1)) + bI (¬ Int64.ofNat n < own_p 2)) + bI (¬ Int64.ofNat n < own_p 3)) + bI (¬ Int64.ofNat n < own_p 4)) + bI (¬ Int64.ofNat n < own_p 5)))] [(.int (6 : Int32)), (.ref P), (.long (Int64.ofNat n))])) rfl rfl (hb hby d1_61) _ w_k) ?_
    show Gd _ _ _ _ (s₁.setTop (mkF m 62 #[.val (.long (Int64.ofNat n)), .second, .val (.ref P), .val (.int ((((((1 : Int32) + bI (¬ Int64.ofNat n < own_p 1)) + bI (¬ Int64.ofNat n < own_p 2)) + bI (¬ Int64.ofNat n < own_p 3)) + bI (¬ Int64.ofNat n < own_p 4)) + bI (¬ Int64.ofNat n < own_p 5)))] [(.long (own_p 6)), (.long (Int64.ofNat n))]))
    refine Gd.go (fun _ w_k => XS.lcmp X0.here hx rfl (hb hby d1_62) rfl w_k) ?_
    show Gd _ _ _ _ (s₁.setTop (mkF m 63 #[.val (.long (Int64.ofNat n)), .second, .val (.ref P), .val (.int ((((((1 : Int32) + bI (¬ Int64.ofNat n < own_p 1)) + bI (¬ Int64.ofNat n < own_p 2)) + bI (¬ Int64.ofNat n < own_p 3)) + bI (¬ Int64.ofNat n < own_p 4)) + bI (¬ Int64.ofNat n < own_p 5)))] [(.int (lcmpW (Int64.ofNat n) (own_p 6)))]))
    by_cases hc22 : (Int64.ofNat n) < (own_p 6)
    · refine Gd.go (fun _ w_k => XS.ifYes X0.here hx rfl (pc0 := 63) (pc' := 69) rfl (hb hby d1_63) rfl ((if0 _ _).trans (tlt ((lw_lt _ _).mpr hc22)).1) (by decide) (by decide) w_k) ?_
      show Gd _ _ _ _ (s₁.setTop (mkF m 69 #[.val (.long (Int64.ofNat n)), .second, .val (.ref P), .val (.int ((((((1 : Int32) + bI (¬ Int64.ofNat n < own_p 1)) + bI (¬ Int64.ofNat n < own_p 2)) + bI (¬ Int64.ofNat n < own_p 3)) + bI (¬ Int64.ofNat n < own_p 4)) + bI (¬ Int64.ofNat n < own_p 5)))] []))
      have q23 : (((((((1 : Int32) + bI (¬ Int64.ofNat n < own_p 1)) + bI (¬ Int64.ofNat n < own_p 2)) + bI (¬ Int64.ofNat n < own_p 3)) + bI (¬ Int64.ofNat n < own_p 4)) + bI (¬ Int64.ofNat n < own_p 5)) + bI (¬ Int64.ofNat n < own_p 6)) = ((((((1 : Int32) + bI (¬ Int64.ofNat n < own_p 1)) + bI (¬ Int64.ofNat n < own_p 2)) + bI (¬ Int64.ofNat n < own_p 3)) + bI (¬ Int64.ofNat n < own_p 4)) + bI (¬ Int64.ofNat n < own_p 5)) := own_jz _ hc22
      rw [q23] at J21
      exact J21
    · refine Gd.go (fun _ w_k => XS.ifNo X0.here hx rfl (hb hby d1_63) rfl ((if0 _ _).trans (flt (fun q => hc22 ((lw_lt _ _).mp q))).1) w_k) ?_
      show Gd _ _ _ _ (s₁.setTop (mkF m 66 #[.val (.long (Int64.ofNat n)), .second, .val (.ref P), .val (.int ((((((1 : Int32) + bI (¬ Int64.ofNat n < own_p 1)) + bI (¬ Int64.ofNat n < own_p 2)) + bI (¬ Int64.ofNat n < own_p 3)) + bI (¬ Int64.ofNat n < own_p 4)) + bI (¬ Int64.ofNat n < own_p 5)))] []))
      refine Gd.go (fun _ w_k => XS.iinc X0.here hx rfl (hb hby d1_66) rfl (l' := #[.val (.long (Int64.ofNat n)), .second, .val (.ref P), .val (.int (((((((1 : Int32) + bI (¬ Int64.ofNat n < own_p 1)) + bI (¬ Int64.ofNat n < own_p 2)) + bI (¬ Int64.ofNat n < own_p 3)) + bI (¬ Int64.ofNat n < own_p 4)) + bI (¬ Int64.ofNat n < own_p 5)) + (1 : Int32)))]) rfl w_k) ?_
      show Gd _ _ _ _ (s₁.setTop (mkF m 69 #[.val (.long (Int64.ofNat n)), .second, .val (.ref P), .val (.int (((((((1 : Int32) + bI (¬ Int64.ofNat n < own_p 1)) + bI (¬ Int64.ofNat n < own_p 2)) + bI (¬ Int64.ofNat n < own_p 3)) + bI (¬ Int64.ofNat n < own_p 4)) + bI (¬ Int64.ofNat n < own_p 5)) + (1 : Int32)))] []))
      have q24 : (((((((1 : Int32) + bI (¬ Int64.ofNat n < own_p 1)) + bI (¬ Int64.ofNat n < own_p 2)) + bI (¬ Int64.ofNat n < own_p 3)) + bI (¬ Int64.ofNat n < own_p 4)) + bI (¬ Int64.ofNat n < own_p 5)) + bI (¬ Int64.ofNat n < own_p 6)) = (((((((1 : Int32) + bI (¬ Int64.ofNat n < own_p 1)) + bI (¬ Int64.ofNat n < own_p 2)) + bI (¬ Int64.ofNat n < own_p 3)) + bI (¬ Int64.ofNat n < own_p 4)) + bI (¬ Int64.ofNat n < own_p 5)) + (1 : Int32)) := own_jo _ hc22
      rw [q24] at J21
      exact J21
  show Gd _ _ _ _ (s₁.setTop (mkF m 69 #[.val (.long (Int64.ofNat n)), .second, .val (.ref P), .val (.int (((((((1 : Int32) + bI (¬ Int64.ofNat n < own_p 1)) + bI (¬ Int64.ofNat n < own_p 2)) + bI (¬ Int64.ofNat n < own_p 3)) + bI (¬ Int64.ofNat n < own_p 4)) + bI (¬ Int64.ofNat n < own_p 5)) + bI (¬ Int64.ofNat n < own_p 6)))] []))
  refine Gd.via (S' := s₁.setTop (mkF m 81 #[.val (.long (Int64.ofNat n)), .second, .val (.ref P), .val (.int ((((((((1 : Int32) + bI (¬ Int64.ofNat n < own_p 1)) + bI (¬ Int64.ofNat n < own_p 2)) + bI (¬ Int64.ofNat n < own_p 3)) + bI (¬ Int64.ofNat n < own_p 4)) + bI (¬ Int64.ofNat n < own_p 5)) + bI (¬ Int64.ofNat n < own_p 6)) + bI (¬ Int64.ofNat n < own_p 7)))] [])) (fun J25 => ?_) ?_
  · refine Gd.go (fun _ w_k => XS.lloadN X0.here hx rfl (hb hby d1_69) rfl w_k) ?_
    show Gd _ _ _ _ (s₁.setTop (mkF m 70 #[.val (.long (Int64.ofNat n)), .second, .val (.ref P), .val (.int (((((((1 : Int32) + bI (¬ Int64.ofNat n < own_p 1)) + bI (¬ Int64.ofNat n < own_p 2)) + bI (¬ Int64.ofNat n < own_p 3)) + bI (¬ Int64.ofNat n < own_p 4)) + bI (¬ Int64.ofNat n < own_p 5)) + bI (¬ Int64.ofNat n < own_p 6)))] [(.long (Int64.ofNat n))]))
    refine Gd.go (fun _ w_k => XS.aloadN X0.here hx rfl (hb hby d1_70) rfl rfl w_k) ?_
    show Gd _ _ _ _ (s₁.setTop (mkF m 71 #[.val (.long (Int64.ofNat n)), .second, .val (.ref P), .val (.int (((((((1 : Int32) + bI (¬ Int64.ofNat n < own_p 1)) + bI (¬ Int64.ofNat n < own_p 2)) + bI (¬ Int64.ofNat n < own_p 3)) + bI (¬ Int64.ofNat n < own_p 4)) + bI (¬ Int64.ofNat n < own_p 5)) + bI (¬ Int64.ofNat n < own_p 6)))] [(.ref P), (.long (Int64.ofNat n))]))
    refine Gd.go (fun _ w_k => XS.bipush X0.here hx rfl (hb hby d1_71) w_k) ?_
    show Gd _ _ _ _ (s₁.setTop (mkF m 73 #[.val (.long (Int64.ofNat n)), .second, .val (.ref P), .val (.int (((((((1 : Int32) + bI (¬ Int64.ofNat n < own_p 1)) + bI (¬ Int64.ofNat n < own_p 2)) + bI (¬ Int64.ofNat n < own_p 3)) + bI (¬ Int64.ofNat n < own_p 4)) + bI (¬ Int64.ofNat n < own_p 5)) + bI (¬ Int64.ofNat n < own_p 6)))] [(.int (7 : Int32)), (.ref P), (.long (Int64.ofNat n))]))
    refine Gd.go (fun _ w_k => own_ldJ X0 hx hZ e0 AP (j := (7 : Int32)) (by decide) (by decide) (v := (.long (own_p 7))) rfl (g := (mkF m 73 #[.val (.long (Int64.ofNat n)), .second, .val (.ref P), .val (.int (((((((1 : Int32) + bI (¬ Int64.ofNat n < own_p 1)) + bI (¬ Int64.ofNat n < own_p 2)) + bI (¬ Int64.ofNat n < own_p 3)) + bI (¬ Int64.ofNat n < own_p 4)) + bI (¬ Int64.ofNat n < own_p 5)) + bI (¬ Int64.ofNat n < own_p 6)))] [(.int (7 : Int32)), (.ref P), (.long (Int64.ofNat n))])) rfl rfl (hb hby d1_73) _ w_k) ?_
    show Gd _ _ _ _ (s₁.setTop (mkF m 74 #[.val (.long (Int64.ofNat n)), .second, .val (.ref P), .val (.int (((((((1 : Int32) + bI (¬ Int64.ofNat n < own_p 1)) + bI (¬ Int64.ofNat n < own_p 2)) + bI (¬ Int64.ofNat n < own_p 3)) + bI (¬ Int64.ofNat n < own_p 4)) + bI (¬ Int64.ofNat n < own_p 5)) + bI (¬ Int64.ofNat n < own_p 6)))] [(.long (own_p 7)), (.long (Int64.ofNat n))]))
    refine Gd.go (fun _ w_k => XS.lcmp X0.here hx rfl (hb hby d1_74) rfl w_k) ?_
    show Gd _ _ _ _ (s₁.setTop (mkF m 75 #[.val (.long (Int64.ofNat n)), .second, .val (.ref P), .val (.int (((((((1 : Int32) + bI (¬ Int64.ofNat n < own_p 1)) + bI (¬ Int64.ofNat n < own_p 2)) + bI (¬ Int64.ofNat n < own_p 3)) + bI (¬ Int64.ofNat n < own_p 4)) + bI (¬ Int64.ofNat n < own_p 5)) + bI (¬ Int64.ofNat n < own_p 6)))] [(.int (lcmpW (Int64.ofNat n) (own_p 7)))]))
    by_cases hc26 : (Int64.ofNat n) < (own_p 7)
    · refine Gd.go (fun _ w_k => XS.ifYes X0.here hx rfl (pc0 := 75) (pc' := 81) rfl (hb hby d1_75) rfl ((if0 _ _).trans (tlt ((lw_lt _ _).mpr hc26)).1) (by decide) (by decide) w_k) ?_
      show Gd _ _ _ _ (s₁.setTop (mkF m 81 #[.val (.long (Int64.ofNat n)), .second, .val (.ref P), .val (.int (((((((1 : Int32) + bI (¬ Int64.ofNat n < own_p 1)) + bI (¬ Int64.ofNat n < own_p 2)) + bI (¬ Int64.ofNat n < own_p 3)) + bI (¬ Int64.ofNat n < own_p 4)) + bI (¬ Int64.ofNat n < own_p 5)) + bI (¬ Int64.ofNat n < own_p 6)))] []))
      have q27 : ((((((((1 : Int32) + bI (¬ Int64.ofNat n < own_p 1)) + bI (¬ Int64.ofNat n < own_p 2)) + bI (¬ Int64.ofNat n < own_p 3)) + bI (¬ Int64.ofNat n < own_p 4)) + bI (¬ Int64.ofNat n < own_p 5)) + bI (¬ Int64.ofNat n < own_p 6)) + bI (¬ Int64.ofNat n < own_p 7)) = (((((((1 : Int32) + bI (¬ Int64.ofNat n < own_p 1)) + bI (¬ Int64.ofNat n < own_p 2)) + bI (¬ Int64.ofNat n < own_p 3)) + bI (¬ Int64.ofNat n < own_p 4)) + bI (¬ Int64.ofNat n < own_p 5)) + bI (¬ Int64.ofNat n < own_p 6)) := own_jz _ hc26
      rw [q27] at J25
      exact J25
    · refine Gd.go (fun _ w_k => XS.ifNo X0.here hx rfl (hb hby d1_75) rfl ((if0 _ _).trans (flt (fun q => hc26 ((lw_lt _ _).mp q))).1) w_k) ?_
      show Gd _ _ _ _ (s₁.setTop (mkF m 78 #[.val (.long (Int64.ofNat n)), .second, .val (.ref P), .val (.int (((((((1 : Int32) + bI (¬ Int64.ofNat n < own_p 1)) + bI (¬ Int64.ofNat n < own_p 2)) + bI (¬ Int64.ofNat n < own_p 3)) + bI (¬ Int64.ofNat n < own_p 4)) + bI (¬ Int64.ofNat n < own_p 5)) + bI (¬ Int64.ofNat n < own_p 6)))] []))
      refine Gd.go (fun _ w_k => XS.iinc X0.here hx rfl (hb hby d1_78) rfl (l' := #[.val (.long (Int64.ofNat n)), .second, .val (.ref P), .val (.int ((((((((1 : Int32) + bI (¬ Int64.ofNat n < own_p 1)) + bI (¬ Int64.ofNat n < own_p 2)) + bI (¬ Int64.ofNat n < own_p 3)) + bI (¬ Int64.ofNat n < own_p 4)) + bI (¬ Int64.ofNat n < own_p 5)) + bI (¬ Int64.ofNat n < own_p 6)) + (1 : Int32)))]) rfl w_k) ?_
      show Gd _ _ _ _ (s₁.setTop (mkF m 81 #[.val (.long (Int64.ofNat n)), .second, .val (.ref P), .val (.int ((((((((1 : Int32) + bI (¬ Int64.ofNat n < own_p 1)) + bI (¬ Int64.ofNat n < own_p 2)) + bI (¬ Int64.ofNat n < own_p 3)) + bI (¬ Int64.ofNat n < own_p 4)) + bI (¬ Int64.ofNat n < own_p 5)) + bI (¬ Int64.ofNat n < own_p 6)) + (1 : Int32)))] []))
      have q28 : ((((((((1 : Int32) + bI (¬ Int64.ofNat n < own_p 1)) + bI (¬ Int64.ofNat n < own_p 2)) + bI (¬ Int64.ofNat n < own_p 3)) + bI (¬ Int64.ofNat n < own_p 4)) + bI (¬ Int64.ofNat n < own_p 5)) + bI (¬ Int64.ofNat n < own_p 6)) + bI (¬ Int64.ofNat n < own_p 7)) = ((((((((1 : Int32) + bI (¬ Int64.ofNat n < own_p 1)) + bI (¬ Int64.ofNat n < own_p 2)) + bI (¬ Int64.ofNat n < own_p 3)) + bI (¬ Int64.ofNat n < own_p 4)) + bI (¬ Int64.ofNat n < own_p 5)) + bI (¬ Int64.ofNat n < own_p 6)) + (1 : Int32)) := own_jo _ hc26
      rw [q28] at J25
      exact J25
  show Gd _ _ _ _ (s₁.setTop (mkF m 81 #[.val (.long (Int64.ofNat n)), .second, .val (.ref P), .val (.int ((((((((1 : Int32) + bI (¬ Int64.ofNat n < own_p 1)) + bI (¬ Int64.ofNat n < own_p 2)) + bI (¬ Int64.ofNat n < own_p 3)) + bI (¬ Int64.ofNat n < own_p 4)) + bI (¬ Int64.ofNat n < own_p 5)) + bI (¬ Int64.ofNat n < own_p 6)) + bI (¬ Int64.ofNat n < own_p 7)))] []))
  refine Gd.via (S' := s₁.setTop (mkF m 93 #[.val (.long (Int64.ofNat n)), .second, .val (.ref P), .val (.int (((((((((1 : Int32) + bI (¬ Int64.ofNat n < own_p 1)) + bI (¬ Int64.ofNat n < own_p 2)) + bI (¬ Int64.ofNat n < own_p 3)) + bI (¬ Int64.ofNat n < own_p 4)) + bI (¬ Int64.ofNat n < own_p 5)) + bI (¬ Int64.ofNat n < own_p 6)) + bI (¬ Int64.ofNat n < own_p 7)) + bI (¬ Int64.ofNat n < own_p 8)))] [])) (fun J29 => ?_) ?_
  · refine Gd.go (fun _ w_k => XS.lloadN X0.here hx rfl (hb hby d1_81) rfl w_k) ?_
    show Gd _ _ _ _ (s₁.setTop (mkF m 82 #[.val (.long (Int64.ofNat n)), .second, .val (.ref P), .val (.int ((((((((1 : Int32) + bI (¬ Int64.ofNat n < own_p 1)) + bI (¬ Int64.ofNat n < own_p 2)) + bI (¬ Int64.ofNat n < own_p 3)) + bI (¬ Int64.ofNat n < own_p 4)) + bI (¬ Int64.ofNat n < own_p 5)) + bI (¬ Int64.ofNat n < own_p 6)) + bI (¬ Int64.ofNat n < own_p 7)))] [(.long (Int64.ofNat n))]))
    refine Gd.go (fun _ w_k => XS.aloadN X0.here hx rfl (hb hby d1_82) rfl rfl w_k) ?_
    show Gd _ _ _ _ (s₁.setTop (mkF m 83 #[.val (.long (Int64.ofNat n)), .second, .val (.ref P), .val (.int ((((((((1 : Int32) + bI (¬ Int64.ofNat n < own_p 1)) + bI (¬ Int64.ofNat n < own_p 2)) + bI (¬ Int64.ofNat n < own_p 3)) + bI (¬ Int64.ofNat n < own_p 4)) + bI (¬ Int64.ofNat n < own_p 5)) + bI (¬ Int64.ofNat n < own_p 6)) + bI (¬ Int64.ofNat n < own_p 7)))] [(.ref P), (.long (Int64.ofNat n))]))
    refine Gd.go (fun _ w_k => XS.bipush X0.here hx rfl (hb hby d1_83) w_k) ?_
    show Gd _ _ _ _ (s₁.setTop (mkF m 85 #[.val (.long (Int64.ofNat n)), .second, .val (.ref P), .val (.int ((((((((1 : Int32) + bI (¬ Int64.ofNat n < own_p 1)) + bI (¬ Int64.ofNat n < own_p 2)) + bI (¬ Int64.ofNat n < own_p 3)) + bI (¬ Int64.ofNat n < own_p 4)) + bI (¬ Int64.ofNat n < own_p 5)) + bI (¬ Int64.ofNat n < own_p 6)) + bI (¬ Int64.ofNat n < own_p 7)))] [(.int (8 : Int32)), (.ref P), (.long (Int64.ofNat n))]))
    refine Gd.go (fun _ w_k => own_ldJ X0 hx hZ e0 AP (j := (8 : Int32)) (by decide) (by decide) (v := (.long (own_p 8))) rfl (g := (mkF m 85 #[.val (.long (Int64.ofNat n)), .second, .val (.ref P), .val (.int ((((((((1 : Int32) + bI (¬ Int64.ofNat n < own_p 1)) + bI (¬ Int64.ofNat n < own_p 2)) + bI (¬ Int64.ofNat n < own_p 3)) + bI (¬ Int64.ofNat n < own_p 4)) + bI (¬ Int64.ofNat n < own_p 5)) + bI (¬ Int64.ofNat n < own_p 6)) + bI (¬ Int64.ofNat n < own_p 7)))] [(.int (8 : Int32)), (.ref P), (.long (Int64.ofNat n))])) rfl rfl (hb hby d1_85) _ w_k) ?_
    show Gd _ _ _ _ (s₁.setTop (mkF m 86 #[.val (.long (Int64.ofNat n)), .second, .val (.ref P), .val (.int ((((((((1 : Int32) + bI (¬ Int64.ofNat n < own_p 1)) + bI (¬ Int64.ofNat n < own_p 2)) + bI (¬ Int64.ofNat n < own_p 3)) + bI (¬ Int64.ofNat n < own_p 4)) + bI (¬ Int64.ofNat n < own_p 5)) + bI (¬ Int64.ofNat n < own_p 6)) + bI (¬ Int64.ofNat n < own_p 7)))] [(.long (own_p 8)), (.long (Int64.ofNat n))]))
    refine Gd.go (fun _ w_k => XS.lcmp X0.here hx rfl (hb hby d1_86) rfl w_k) ?_
    show Gd _ _ _ _ (s₁.setTop (mkF m 87 #[.val (.long (Int64.ofNat n)), .second, .val (.ref P), .val (.int ((((((((1 : Int32) + bI (¬ Int64.ofNat n < own_p 1)) + bI (¬ Int64.ofNat n < own_p 2)) + bI (¬ Int64.ofNat n < own_p 3)) + bI (¬ Int64.ofNat n < own_p 4)) + bI (¬ Int64.ofNat n < own_p 5)) + bI (¬ Int64.ofNat n < own_p 6)) + bI (¬ Int64.ofNat n < own_p 7)))] [(.int (lcmpW (Int64.ofNat n) (own_p 8)))]))
    by_cases hc30 : (Int64.ofNat n) < (own_p 8)
    · refine Gd.go (fun _ w_k => XS.ifYes X0.here hx rfl (pc0 := 87) (pc' := 93) rfl (hb hby d1_87) rfl ((if0 _ _).trans (tlt ((lw_lt _ _).mpr hc30)).1) (by decide) (by decide) w_k) ?_
      show Gd _ _ _ _ (s₁.setTop (mkF m 93 #[.val (.long (Int64.ofNat n)), .second, .val (.ref P), .val (.int ((((((((1 : Int32) + bI (¬ Int64.ofNat n < own_p 1)) + bI (¬ Int64.ofNat n < own_p 2)) + bI (¬ Int64.ofNat n < own_p 3)) + bI (¬ Int64.ofNat n < own_p 4)) + bI (¬ Int64.ofNat n < own_p 5)) + bI (¬ Int64.ofNat n < own_p 6)) + bI (¬ Int64.ofNat n < own_p 7)))] []))
      have q31 : (((((((((1 : Int32) + bI (¬ Int64.ofNat n < own_p 1)) + bI (¬ Int64.ofNat n < own_p 2)) + bI (¬ Int64.ofNat n < own_p 3)) + bI (¬ Int64.ofNat n < own_p 4)) + bI (¬ Int64.ofNat n < own_p 5)) + bI (¬ Int64.ofNat n < own_p 6)) + bI (¬ Int64.ofNat n < own_p 7)) + bI (¬ Int64.ofNat n < own_p 8)) = ((((((((1 : Int32) + bI (¬ Int64.ofNat n < own_p 1)) + bI (¬ Int64.ofNat n < own_p 2)) + bI (¬ Int64.ofNat n < own_p 3)) + bI (¬ Int64.ofNat n < own_p 4)) + bI (¬ Int64.ofNat n < own_p 5)) + bI (¬ Int64.ofNat n < own_p 6)) + bI (¬ Int64.ofNat n < own_p 7)) := own_jz _ hc30
      rw [q31] at J29
      exact J29
    · refine Gd.go (fun _ w_k => XS.ifNo X0.here hx rfl (hb hby d1_87) rfl ((if0 _ _).trans (flt (fun q => hc30 ((lw_lt _ _).mp q))).1) w_k) ?_
      show Gd _ _ _ _ (s₁.setTop (mkF m 90 #[.val (.long (Int64.ofNat n)), .second, .val (.ref P), .val (.int ((((((((1 : Int32) + bI (¬ Int64.ofNat n < own_p 1)) + bI (¬ Int64.ofNat n < own_p 2)) + bI (¬ Int64.ofNat n < own_p 3)) + bI (¬ Int64.ofNat n < own_p 4)) + bI (¬ Int64.ofNat n < own_p 5)) + bI (¬ Int64.ofNat n < own_p 6)) + bI (¬ Int64.ofNat n < own_p 7)))] []))
      refine Gd.go (fun _ w_k => XS.iinc X0.here hx rfl (hb hby d1_90) rfl (l' := #[.val (.long (Int64.ofNat n)), .second, .val (.ref P), .val (.int (((((((((1 : Int32) + bI (¬ Int64.ofNat n < own_p 1)) + bI (¬ Int64.ofNat n < own_p 2)) + bI (¬ Int64.ofNat n < own_p 3)) + bI (¬ Int64.ofNat n < own_p 4)) + bI (¬ Int64.ofNat n < own_p 5)) + bI (¬ Int64.ofNat n < own_p 6)) + bI (¬ Int64.ofNat n < own_p 7)) + (1 : Int32)))]) rfl w_k) ?_
      show Gd _ _ _ _ (s₁.setTop (mkF m 93 #[.val (.long (Int64.ofNat n)), .second, .val (.ref P), .val (.int (((((((((1 : Int32) + bI (¬ Int64.ofNat n < own_p 1)) + bI (¬ Int64.ofNat n < own_p 2)) + bI (¬ Int64.ofNat n < own_p 3)) + bI (¬ Int64.ofNat n < own_p 4)) + bI (¬ Int64.ofNat n < own_p 5)) + bI (¬ Int64.ofNat n < own_p 6)) + bI (¬ Int64.ofNat n < own_p 7)) + (1 : Int32)))] []))
      have q32 : (((((((((1 : Int32) + bI (¬ Int64.ofNat n < own_p 1)) + bI (¬ Int64.ofNat n < own_p 2)) + bI (¬ Int64.ofNat n < own_p 3)) + bI (¬ Int64.ofNat n < own_p 4)) + bI (¬ Int64.ofNat n < own_p 5)) + bI (¬ Int64.ofNat n < own_p 6)) + bI (¬ Int64.ofNat n < own_p 7)) + bI (¬ Int64.ofNat n < own_p 8)) = (((((((((1 : Int32) + bI (¬ Int64.ofNat n < own_p 1)) + bI (¬ Int64.ofNat n < own_p 2)) + bI (¬ Int64.ofNat n < own_p 3)) + bI (¬ Int64.ofNat n < own_p 4)) + bI (¬ Int64.ofNat n < own_p 5)) + bI (¬ Int64.ofNat n < own_p 6)) + bI (¬ Int64.ofNat n < own_p 7)) + (1 : Int32)) := own_jo _ hc30
      rw [q32] at J29
      exact J29
  show Gd _ _ _ _ (s₁.setTop (mkF m 93 #[.val (.long (Int64.ofNat n)), .second, .val (.ref P), .val (.int (((((((((1 : Int32) + bI (¬ Int64.ofNat n < own_p 1)) + bI (¬ Int64.ofNat n < own_p 2)) + bI (¬ Int64.ofNat n < own_p 3)) + bI (¬ Int64.ofNat n < own_p 4)) + bI (¬ Int64.ofNat n < own_p 5)) + bI (¬ Int64.ofNat n < own_p 6)) + bI (¬ Int64.ofNat n < own_p 7)) + bI (¬ Int64.ofNat n < own_p 8)))] []))
  refine Gd.via (S' := s₁.setTop (mkF m 105 #[.val (.long (Int64.ofNat n)), .second, .val (.ref P), .val (.int ((((((((((1 : Int32) + bI (¬ Int64.ofNat n < own_p 1)) + bI (¬ Int64.ofNat n < own_p 2)) + bI (¬ Int64.ofNat n < own_p 3)) + bI (¬ Int64.ofNat n < own_p 4)) + bI (¬ Int64.ofNat n < own_p 5)) + bI (¬ Int64.ofNat n < own_p 6)) + bI (¬ Int64.ofNat n < own_p 7)) + bI (¬ Int64.ofNat n < own_p 8)) + bI (¬ Int64.ofNat n < own_p 9)))] [])) (fun J33 => ?_) ?_
  · refine Gd.go (fun _ w_k => XS.lloadN X0.here hx rfl (hb hby d1_93) rfl w_k) ?_
    show Gd _ _ _ _ (s₁.setTop (mkF m 94 #[.val (.long (Int64.ofNat n)), .second, .val (.ref P), .val (.int (((((((((1 : Int32) + bI (¬ Int64.ofNat n < own_p 1)) + bI (¬ Int64.ofNat n < own_p 2)) + bI (¬ Int64.ofNat n < own_p 3)) + bI (¬ Int64.ofNat n < own_p 4)) + bI (¬ Int64.ofNat n < own_p 5)) + bI (¬ Int64.ofNat n < own_p 6)) + bI (¬ Int64.ofNat n < own_p 7)) + bI (¬ Int64.ofNat n < own_p 8)))] [(.long (Int64.ofNat n))]))
    refine Gd.go (fun _ w_k => XS.aloadN X0.here hx rfl (hb hby d1_94) rfl rfl w_k) ?_
    show Gd _ _ _ _ (s₁.setTop (mkF m 95 #[.val (.long (Int64.ofNat n)), .second, .val (.ref P), .val (.int (((((((((1 : Int32) + bI (¬ Int64.ofNat n < own_p 1)) + bI (¬ Int64.ofNat n < own_p 2)) + bI (¬ Int64.ofNat n < own_p 3)) + bI (¬ Int64.ofNat n < own_p 4)) + bI (¬ Int64.ofNat n < own_p 5)) + bI (¬ Int64.ofNat n < own_p 6)) + bI (¬ Int64.ofNat n < own_p 7)) + bI (¬ Int64.ofNat n < own_p 8)))] [(.ref P), (.long (Int64.ofNat n))]))
    refine Gd.go (fun _ w_k => XS.bipush X0.here hx rfl (hb hby d1_95) w_k) ?_
    show Gd _ _ _ _ (s₁.setTop (mkF m 97 #[.val (.long (Int64.ofNat n)), .second, .val (.ref P), .val (.int (((((((((1 : Int32) + bI (¬ Int64.ofNat n < own_p 1)) + bI (¬ Int64.ofNat n < own_p 2)) + bI (¬ Int64.ofNat n < own_p 3)) + bI (¬ Int64.ofNat n < own_p 4)) + bI (¬ Int64.ofNat n < own_p 5)) + bI (¬ Int64.ofNat n < own_p 6)) + bI (¬ Int64.ofNat n < own_p 7)) + bI (¬ Int64.ofNat n < own_p 8)))] [(.int (9 : Int32)), (.ref P), (.long (Int64.ofNat n))]))
    refine Gd.go (fun _ w_k => own_ldJ X0 hx hZ e0 AP (j := (9 : Int32)) (by decide) (by decide) (v := (.long (own_p 9))) rfl (g := (mkF m 97 #[.val (.long (Int64.ofNat n)), .second, .val (.ref P), .val (.int (((((((((1 : Int32) + bI (¬ Int64.ofNat n < own_p 1)) + bI (¬ Int64.ofNat n < own_p 2)) + bI (¬ Int64.ofNat n < own_p 3)) + bI (¬ Int64.ofNat n < own_p 4)) + bI (¬ Int64.ofNat n < own_p 5)) + bI (¬ Int64.ofNat n < own_p 6)) + bI (¬ Int64.ofNat n < own_p 7)) + bI (¬ Int64.ofNat n < own_p 8)))] [(.int (9 : Int32)), (.ref P), (.long (Int64.ofNat n))])) rfl rfl (hb hby d1_97) _ w_k) ?_
    show Gd _ _ _ _ (s₁.setTop (mkF m 98 #[.val (.long (Int64.ofNat n)), .second, .val (.ref P), .val (.int (((((((((1 : Int32) + bI (¬ Int64.ofNat n < own_p 1)) + bI (¬ Int64.ofNat n < own_p 2)) + bI (¬ Int64.ofNat n < own_p 3)) + bI (¬ Int64.ofNat n < own_p 4)) + bI (¬ Int64.ofNat n < own_p 5)) + bI (¬ Int64.ofNat n < own_p 6)) + bI (¬ Int64.ofNat n < own_p 7)) + bI (¬ Int64.ofNat n < own_p 8)))] [(.long (own_p 9)), (.long (Int64.ofNat n))]))
    refine Gd.go (fun _ w_k => XS.lcmp X0.here hx rfl (hb hby d1_98) rfl w_k) ?_
    show Gd _ _ _ _ (s₁.setTop (mkF m 99 #[.val (.long (Int64.ofNat n)), .second, .val (.ref P), .val (.int (((((((((1 : Int32) + bI (¬ Int64.ofNat n < own_p 1)) + bI (¬ Int64.ofNat n < own_p 2)) + bI (¬ Int64.ofNat n < own_p 3)) + bI (¬ Int64.ofNat n < own_p 4)) + bI (¬ Int64.ofNat n < own_p 5)) + bI (¬ Int64.ofNat n < own_p 6)) + bI (¬ Int64.ofNat n < own_p 7)) + bI (¬ Int64.ofNat n < own_p 8)))] [(.int (lcmpW (Int64.ofNat n) (own_p 9)))]))
    by_cases hc34 : (Int64.ofNat n) < (own_p 9)
    · refine Gd.go (fun _ w_k => XS.ifYes X0.here hx rfl (pc0 := 99) (pc' := 105) rfl (hb hby d1_99) rfl ((if0 _ _).trans (tlt ((lw_lt _ _).mpr hc34)).1) (by decide) (by decide) w_k) ?_
      show Gd _ _ _ _ (s₁.setTop (mkF m 105 #[.val (.long (Int64.ofNat n)), .second, .val (.ref P), .val (.int (((((((((1 : Int32) + bI (¬ Int64.ofNat n < own_p 1)) + bI (¬ Int64.ofNat n < own_p 2)) + bI (¬ Int64.ofNat n < own_p 3)) + bI (¬ Int64.ofNat n < own_p 4)) + bI (¬ Int64.ofNat n < own_p 5)) + bI (¬ Int64.ofNat n < own_p 6)) + bI (¬ Int64.ofNat n < own_p 7)) + bI (¬ Int64.ofNat n < own_p 8)))] []))
      have q35 : ((((((((((1 : Int32) + bI (¬ Int64.ofNat n < own_p 1)) + bI (¬ Int64.ofNat n < own_p 2)) + bI (¬ Int64.ofNat n < own_p 3)) + bI (¬ Int64.ofNat n < own_p 4)) + bI (¬ Int64.ofNat n < own_p 5)) + bI (¬ Int64.ofNat n < own_p 6)) + bI (¬ Int64.ofNat n < own_p 7)) + bI (¬ Int64.ofNat n < own_p 8)) + bI (¬ Int64.ofNat n < own_p 9)) = (((((((((1 : Int32) + bI (¬ Int64.ofNat n < own_p 1)) + bI (¬ Int64.ofNat n < own_p 2)) + bI (¬ Int64.ofNat n < own_p 3)) + bI (¬ Int64.ofNat n < own_p 4)) + bI (¬ Int64.ofNat n < own_p 5)) + bI (¬ Int64.ofNat n < own_p 6)) + bI (¬ Int64.ofNat n < own_p 7)) + bI (¬ Int64.ofNat n < own_p 8)) := own_jz _ hc34
      rw [q35] at J33
      exact J33
    · refine Gd.go (fun _ w_k => XS.ifNo X0.here hx rfl (hb hby d1_99) rfl ((if0 _ _).trans (flt (fun q => hc34 ((lw_lt _ _).mp q))).1) w_k) ?_
      show Gd _ _ _ _ (s₁.setTop (mkF m 102 #[.val (.long (Int64.ofNat n)), .second, .val (.ref P), .val (.int (((((((((1 : Int32) + bI (¬ Int64.ofNat n < own_p 1)) + bI (¬ Int64.ofNat n < own_p 2)) + bI (¬ Int64.ofNat n < own_p 3)) + bI (¬ Int64.ofNat n < own_p 4)) + bI (¬ Int64.ofNat n < own_p 5)) + bI (¬ Int64.ofNat n < own_p 6)) + bI (¬ Int64.ofNat n < own_p 7)) + bI (¬ Int64.ofNat n < own_p 8)))] []))
      refine Gd.go (fun _ w_k => XS.iinc X0.here hx rfl (hb hby d1_102) rfl (l' := #[.val (.long (Int64.ofNat n)), .second, .val (.ref P), .val (.int ((((((((((1 : Int32) + bI (¬ Int64.ofNat n < own_p 1)) + bI (¬ Int64.ofNat n < own_p 2)) + bI (¬ Int64.ofNat n < own_p 3)) + bI (¬ Int64.ofNat n < own_p 4)) + bI (¬ Int64.ofNat n < own_p 5)) + bI (¬ Int64.ofNat n < own_p 6)) + bI (¬ Int64.ofNat n < own_p 7)) + bI (¬ Int64.ofNat n < own_p 8)) + (1 : Int32)))]) rfl w_k) ?_
      show Gd _ _ _ _ (s₁.setTop (mkF m 105 #[.val (.long (Int64.ofNat n)), .second, .val (.ref P), .val (.int ((((((((((1 : Int32) + bI (¬ Int64.ofNat n < own_p 1)) + bI (¬ Int64.ofNat n < own_p 2)) + bI (¬ Int64.ofNat n < own_p 3)) + bI (¬ Int64.ofNat n < own_p 4)) + bI (¬ Int64.ofNat n < own_p 5)) + bI (¬ Int64.ofNat n < own_p 6)) + bI (¬ Int64.ofNat n < own_p 7)) + bI (¬ Int64.ofNat n < own_p 8)) + (1 : Int32)))] []))
      have q36 : ((((((((((1 : Int32) + bI (¬ Int64.ofNat n < own_p 1)) + bI (¬ Int64.ofNat n < own_p 2)) + bI (¬ Int64.ofNat n < own_p 3)) + bI (¬ Int64.ofNat n < own_p 4)) + bI (¬ Int64.ofNat n < own_p 5)) + bI (¬ Int64.ofNat n < own_p 6)) + bI (¬ Int64.ofNat n < own_p 7)) + bI (¬ Int64.ofNat n < own_p 8)) + bI (¬ Int64.ofNat n < own_p 9)) = ((((((((((1 : Int32) + bI (¬ Int64.ofNat n < own_p 1)) + bI (¬ Int64.ofNat n < own_p 2)) + bI (¬ Int64.ofNat n < own_p 3)) + bI (¬ Int64.ofNat n < own_p 4)) + bI (¬ Int64.ofNat n < own_p 5)) + bI (¬ Int64.ofNat n < own_p 6)) + bI (¬ Int64.ofNat n < own_p 7)) + bI (¬ Int64.ofNat n < own_p 8)) + (1 : Int32)) := own_jo _ hc34
      rw [q36] at J33
      exact J33
  show Gd _ _ _ _ (s₁.setTop (mkF m 105 #[.val (.long (Int64.ofNat n)), .second, .val (.ref P), .val (.int ((((((((((1 : Int32) + bI (¬ Int64.ofNat n < own_p 1)) + bI (¬ Int64.ofNat n < own_p 2)) + bI (¬ Int64.ofNat n < own_p 3)) + bI (¬ Int64.ofNat n < own_p 4)) + bI (¬ Int64.ofNat n < own_p 5)) + bI (¬ Int64.ofNat n < own_p 6)) + bI (¬ Int64.ofNat n < own_p 7)) + bI (¬ Int64.ofNat n < own_p 8)) + bI (¬ Int64.ofNat n < own_p 9)))] []))
  refine Gd.via (S' := s₁.setTop (mkF m 117 #[.val (.long (Int64.ofNat n)), .second, .val (.ref P), .val (.int (((((((((((1 : Int32) + bI (¬ Int64.ofNat n < own_p 1)) + bI (¬ Int64.ofNat n < own_p 2)) + bI (¬ Int64.ofNat n < own_p 3)) + bI (¬ Int64.ofNat n < own_p 4)) + bI (¬ Int64.ofNat n < own_p 5)) + bI (¬ Int64.ofNat n < own_p 6)) + bI (¬ Int64.ofNat n < own_p 7)) + bI (¬ Int64.ofNat n < own_p 8)) + bI (¬ Int64.ofNat n < own_p 9)) + bI (¬ Int64.ofNat n < own_p 10)))] [])) (fun J37 => ?_) ?_
  · refine Gd.go (fun _ w_k => XS.lloadN X0.here hx rfl (hb hby d1_105) rfl w_k) ?_
    show Gd _ _ _ _ (s₁.setTop (mkF m 106 #[.val (.long (Int64.ofNat n)), .second, .val (.ref P), .val (.int ((((((((((1 : Int32) + bI (¬ Int64.ofNat n < own_p 1)) + bI (¬ Int64.ofNat n < own_p 2)) + bI (¬ Int64.ofNat n < own_p 3)) + bI (¬ Int64.ofNat n < own_p 4)) + bI (¬ Int64.ofNat n < own_p 5)) + bI (¬ Int64.ofNat n < own_p 6)) + bI (¬ Int64.ofNat n < own_p 7)) + bI (¬ Int64.ofNat n < own_p 8)) + bI (¬ Int64.ofNat n < own_p 9)))] [(.long (Int64.ofNat n))]))
    refine Gd.go (fun _ w_k => XS.aloadN X0.here hx rfl (hb hby d1_106) rfl rfl w_k) ?_
    show Gd _ _ _ _ (s₁.setTop (mkF m 107 #[.val (.long (Int64.ofNat n)), .second, .val (.ref P), .val (.int ((((((((((1 : Int32) + bI (¬ Int64.ofNat n < own_p 1)) + bI (¬ Int64.ofNat n < own_p 2)) + bI (¬ Int64.ofNat n < own_p 3)) + bI (¬ Int64.ofNat n < own_p 4)) + bI (¬ Int64.ofNat n < own_p 5)) + bI (¬ Int64.ofNat n < own_p 6)) + bI (¬ Int64.ofNat n < own_p 7)) + bI (¬ Int64.ofNat n < own_p 8)) + bI (¬ Int64.ofNat n < own_p 9)))] [(.ref P), (.long (Int64.ofNat n))]))
    refine Gd.go (fun _ w_k => XS.bipush X0.here hx rfl (hb hby d1_107) w_k) ?_
    show Gd _ _ _ _ (s₁.setTop (mkF m 109 #[.val (.long (Int64.ofNat n)), .second, .val (.ref P), .val (.int ((((((((((1 : Int32) + bI (¬ Int64.ofNat n < own_p 1)) + bI (¬ Int64.ofNat n < own_p 2)) + bI (¬ Int64.ofNat n < own_p 3)) + bI (¬ Int64.ofNat n < own_p 4)) + bI (¬ Int64.ofNat n < own_p 5)) + bI (¬ Int64.ofNat n < own_p 6)) + bI (¬ Int64.ofNat n < own_p 7)) + bI (¬ Int64.ofNat n < own_p 8)) + bI (¬ Int64.ofNat n < own_p 9)))] [(.int (10 : Int32)), (.ref P), (.long (Int64.ofNat n))]))
    refine Gd.go (fun _ w_k => own_ldJ X0 hx hZ e0 AP (j := (10 : Int32)) (by decide) (by decide) (v := (.long (own_p 10))) rfl (g := (mkF m 109 #[.val (.long (Int64.ofNat n)), .second, .val (.ref P), .val (.int ((((((((((1 : Int32) + bI (¬ Int64.ofNat n < own_p 1)) + bI (¬ Int64.ofNat n < own_p 2)) + bI (¬ Int64.ofNat n < own_p 3)) + bI (¬ Int64.ofNat n < own_p 4)) + bI (¬ Int64.ofNat n < own_p 5)) + bI (¬ Int64.ofNat n < own_p 6)) + bI (¬ Int64.ofNat n < own_p 7)) + bI (¬ Int64.ofNat n < own_p 8)) + bI (¬ Int64.ofNat n < own_p 9)))] [(.int (10 : Int32)), (.ref P), (.long (Int64.ofNat n))])) rfl rfl (hb hby d1_109) _ w_k) ?_
    show Gd _ _ _ _ (s₁.setTop (mkF m 110 #[.val (.long (Int64.ofNat n)), .second, .val (.ref P), .val (.int ((((((((((1 : Int32) + bI (¬ Int64.ofNat n < own_p 1)) + bI (¬ Int64.ofNat n < own_p 2)) + bI (¬ Int64.ofNat n < own_p 3)) + bI (¬ Int64.ofNat n < own_p 4)) + bI (¬ Int64.ofNat n < own_p 5)) + bI (¬ Int64.ofNat n < own_p 6)) + bI (¬ Int64.ofNat n < own_p 7)) + bI (¬ Int64.ofNat n < own_p 8)) + bI (¬ Int64.ofNat n < own_p 9)))] [(.long (own_p 10)), (.long (Int64.ofNat n))]))
    refine Gd.go (fun _ w_k => XS.lcmp X0.here hx rfl (hb hby d1_110) rfl w_k) ?_
    show Gd _ _ _ _ (s₁.setTop (mkF m 111 #[.val (.long (Int64.ofNat n)), .second, .val (.ref P), .val (.int ((((((((((1 : Int32) + bI (¬ Int64.ofNat n < own_p 1)) + bI (¬ Int64.ofNat n < own_p 2)) + bI (¬ Int64.ofNat n < own_p 3)) + bI (¬ Int64.ofNat n < own_p 4)) + bI (¬ Int64.ofNat n < own_p 5)) + bI (¬ Int64.ofNat n < own_p 6)) + bI (¬ Int64.ofNat n < own_p 7)) + bI (¬ Int64.ofNat n < own_p 8)) + bI (¬ Int64.ofNat n < own_p 9)))] [(.int (lcmpW (Int64.ofNat n) (own_p 10)))]))
    by_cases hc38 : (Int64.ofNat n) < (own_p 10)
    · refine Gd.go (fun _ w_k => XS.ifYes X0.here hx rfl (pc0 := 111) (pc' := 117) rfl (hb hby d1_111) rfl ((if0 _ _).trans (tlt ((lw_lt _ _).mpr hc38)).1) (by decide) (by decide) w_k) ?_
      show Gd _ _ _ _ (s₁.setTop (mkF m 117 #[.val (.long (Int64.ofNat n)), .second, .val (.ref P), .val (.int ((((((((((1 : Int32) + bI (¬ Int64.ofNat n < own_p 1)) + bI (¬ Int64.ofNat n < own_p 2)) + bI (¬ Int64.ofNat n < own_p 3)) + bI (¬ Int64.ofNat n < own_p 4)) + bI (¬ Int64.ofNat n < own_p 5)) + bI (¬ Int64.ofNat n < own_p 6)) + bI (¬ Int64.ofNat n < own_p 7)) + bI (¬ Int64.ofNat n < own_p 8)) + bI (¬ Int64.ofNat n < own_p 9)))] []))
      have q39 : (((((((((((1 : Int32) + bI (¬ Int64.ofNat n < own_p 1)) + bI (¬ Int64.ofNat n < own_p 2)) + bI (¬ Int64.ofNat n < own_p 3)) + bI (¬ Int64.ofNat n < own_p 4)) + bI (¬ Int64.ofNat n < own_p 5)) + bI (¬ Int64.ofNat n < own_p 6)) + bI (¬ Int64.ofNat n < own_p 7)) + bI (¬ Int64.ofNat n < own_p 8)) + bI (¬ Int64.ofNat n < own_p 9)) + bI (¬ Int64.ofNat n < own_p 10)) = ((((((((((1 : Int32) + bI (¬ Int64.ofNat n < own_p 1)) + bI (¬ Int64.ofNat n < own_p 2)) + bI (¬ Int64.ofNat n < own_p 3)) + bI (¬ Int64.ofNat n < own_p 4)) + bI (¬ Int64.ofNat n < own_p 5)) + bI (¬ Int64.ofNat n < own_p 6)) + bI (¬ Int64.ofNat n < own_p 7)) + bI (¬ Int64.ofNat n < own_p 8)) + bI (¬ Int64.ofNat n < own_p 9)) := own_jz _ hc38
      rw [q39] at J37
      exact J37
    · refine Gd.go (fun _ w_k => XS.ifNo X0.here hx rfl (hb hby d1_111) rfl ((if0 _ _).trans (flt (fun q => hc38 ((lw_lt _ _).mp q))).1) w_k) ?_
      show Gd _ _ _ _ (s₁.setTop (mkF m 114 #[.val (.long (Int64.ofNat n)), .second, .val (.ref P), .val (.int ((((((((((1 : Int32) + bI (¬ Int64.ofNat n < own_p 1)) + bI (¬ Int64.ofNat n < own_p 2)) + bI (¬ Int64.ofNat n < own_p 3)) + bI (¬ Int64.ofNat n < own_p 4)) + bI (¬ Int64.ofNat n < own_p 5)) + bI (¬ Int64.ofNat n < own_p 6)) + bI (¬ Int64.ofNat n < own_p 7)) + bI (¬ Int64.ofNat n < own_p 8)) + bI (¬ Int64.ofNat n < own_p 9)))] []))
      refine Gd.go (fun _ w_k => XS.iinc X0.here hx rfl (hb hby d1_114) rfl (l' := #[.val (.long (Int64.ofNat n)), .second, .val (.ref P), .val (.int (((((((((((1 : Int32) + bI (¬ Int64.ofNat n < own_p 1)) + bI (¬ Int64.ofNat n < own_p 2)) + bI (¬ Int64.ofNat n < own_p 3)) + bI (¬ Int64.ofNat n < own_p 4)) + bI (¬ Int64.ofNat n < own_p 5)) + bI (¬ Int64.ofNat n < own_p 6)) + bI (¬ Int64.ofNat n < own_p 7)) + bI (¬ Int64.ofNat n < own_p 8)) + bI (¬ Int64.ofNat n < own_p 9)) + (1 : Int32)))]) rfl w_k) ?_
      show Gd _ _ _ _ (s₁.setTop (mkF m 117 #[.val (.long (Int64.ofNat n)), .second, .val (.ref P), .val (.int (((((((((((1 : Int32) + bI (¬ Int64.ofNat n < own_p 1)) + bI (¬ Int64.ofNat n < own_p 2)) + bI (¬ Int64.ofNat n < own_p 3)) + bI (¬ Int64.ofNat n < own_p 4)) + bI (¬ Int64.ofNat n < own_p 5)) + bI (¬ Int64.ofNat n < own_p 6)) + bI (¬ Int64.ofNat n < own_p 7)) + bI (¬ Int64.ofNat n < own_p 8)) + bI (¬ Int64.ofNat n < own_p 9)) + (1 : Int32)))] []))
      have q40 : (((((((((((1 : Int32) + bI (¬ Int64.ofNat n < own_p 1)) + bI (¬ Int64.ofNat n < own_p 2)) + bI (¬ Int64.ofNat n < own_p 3)) + bI (¬ Int64.ofNat n < own_p 4)) + bI (¬ Int64.ofNat n < own_p 5)) + bI (¬ Int64.ofNat n < own_p 6)) + bI (¬ Int64.ofNat n < own_p 7)) + bI (¬ Int64.ofNat n < own_p 8)) + bI (¬ Int64.ofNat n < own_p 9)) + bI (¬ Int64.ofNat n < own_p 10)) = (((((((((((1 : Int32) + bI (¬ Int64.ofNat n < own_p 1)) + bI (¬ Int64.ofNat n < own_p 2)) + bI (¬ Int64.ofNat n < own_p 3)) + bI (¬ Int64.ofNat n < own_p 4)) + bI (¬ Int64.ofNat n < own_p 5)) + bI (¬ Int64.ofNat n < own_p 6)) + bI (¬ Int64.ofNat n < own_p 7)) + bI (¬ Int64.ofNat n < own_p 8)) + bI (¬ Int64.ofNat n < own_p 9)) + (1 : Int32)) := own_jo _ hc38
      rw [q40] at J37
      exact J37
  show Gd _ _ _ _ (s₁.setTop (mkF m 117 #[.val (.long (Int64.ofNat n)), .second, .val (.ref P), .val (.int (((((((((((1 : Int32) + bI (¬ Int64.ofNat n < own_p 1)) + bI (¬ Int64.ofNat n < own_p 2)) + bI (¬ Int64.ofNat n < own_p 3)) + bI (¬ Int64.ofNat n < own_p 4)) + bI (¬ Int64.ofNat n < own_p 5)) + bI (¬ Int64.ofNat n < own_p 6)) + bI (¬ Int64.ofNat n < own_p 7)) + bI (¬ Int64.ofNat n < own_p 8)) + bI (¬ Int64.ofNat n < own_p 9)) + bI (¬ Int64.ofNat n < own_p 10)))] []))
  refine Gd.via (S' := s₁.setTop (mkF m 129 #[.val (.long (Int64.ofNat n)), .second, .val (.ref P), .val (.int ((((((((((((1 : Int32) + bI (¬ Int64.ofNat n < own_p 1)) + bI (¬ Int64.ofNat n < own_p 2)) + bI (¬ Int64.ofNat n < own_p 3)) + bI (¬ Int64.ofNat n < own_p 4)) + bI (¬ Int64.ofNat n < own_p 5)) + bI (¬ Int64.ofNat n < own_p 6)) + bI (¬ Int64.ofNat n < own_p 7)) + bI (¬ Int64.ofNat n < own_p 8)) + bI (¬ Int64.ofNat n < own_p 9)) + bI (¬ Int64.ofNat n < own_p 10)) + bI (¬ Int64.ofNat n < own_p 11)))] [])) (fun J41 => ?_) ?_
  · refine Gd.go (fun _ w_k => XS.lloadN X0.here hx rfl (hb hby d1_117) rfl w_k) ?_
    show Gd _ _ _ _ (s₁.setTop (mkF m 118 #[.val (.long (Int64.ofNat n)), .second, .val (.ref P), .val (.int (((((((((((1 : Int32) + bI (¬ Int64.ofNat n < own_p 1)) + bI (¬ Int64.ofNat n < own_p 2)) + bI (¬ Int64.ofNat n < own_p 3)) + bI (¬ Int64.ofNat n < own_p 4)) + bI (¬ Int64.ofNat n < own_p 5)) + bI (¬ Int64.ofNat n < own_p 6)) + bI (¬ Int64.ofNat n < own_p 7)) + bI (¬ Int64.ofNat n < own_p 8)) + bI (¬ Int64.ofNat n < own_p 9)) + bI (¬ Int64.ofNat n < own_p 10)))] [(.long (Int64.ofNat n))]))
    refine Gd.go (fun _ w_k => XS.aloadN X0.here hx rfl (hb hby d1_118) rfl rfl w_k) ?_
    show Gd _ _ _ _ (s₁.setTop (mkF m 119 #[.val (.long (Int64.ofNat n)), .second, .val (.ref P), .val (.int (((((((((((1 : Int32) + bI (¬ Int64.ofNat n < own_p 1)) + bI (¬ Int64.ofNat n < own_p 2)) + bI (¬ Int64.ofNat n < own_p 3)) + bI (¬ Int64.ofNat n < own_p 4)) + bI (¬ Int64.ofNat n < own_p 5)) + bI (¬ Int64.ofNat n < own_p 6)) + bI (¬ Int64.ofNat n < own_p 7)) + bI (¬ Int64.ofNat n < own_p 8)) + bI (¬ Int64.ofNat n < own_p 9)) + bI (¬ Int64.ofNat n < own_p 10)))] [(.ref P), (.long (Int64.ofNat n))]))
    refine Gd.go (fun _ w_k => XS.bipush X0.here hx rfl (hb hby d1_119) w_k) ?_
    show Gd _ _ _ _ (s₁.setTop (mkF m 121 #[.val (.long (Int64.ofNat n)), .second, .val (.ref P), .val (.int (((((((((((1 : Int32) + bI (¬ Int64.ofNat n < own_p 1)) + bI (¬ Int64.ofNat n < own_p 2)) + bI (¬ Int64.ofNat n < own_p 3)) + bI (¬ Int64.ofNat n < own_p 4)) + bI (¬ Int64.ofNat n < own_p 5)) + bI (¬ Int64.ofNat n < own_p 6)) + bI (¬ Int64.ofNat n < own_p 7)) + bI (¬ Int64.ofNat n < own_p 8)) + bI (¬ Int64.ofNat n < own_p 9)) + bI (¬ Int64.ofNat n < own_p 10)))] [(.int (11 : Int32)), (.ref P), (.long (Int64.ofNat n))]))
    refine Gd.go (fun _ w_k => own_ldJ X0 hx hZ e0 AP (j := (11 : Int32)) (by decide) (by decide) (v := (.long (own_p 11))) rfl (g := (mkF m 121 #[.val (.long (Int64.ofNat n)), .second, .val (.ref P), .val (.int (((((((((((1 : Int32) + bI (¬ Int64.ofNat n < own_p 1)) + bI (¬ Int64.ofNat n < own_p 2)) + bI (¬ Int64.ofNat n < own_p 3)) + bI (¬ Int64.ofNat n < own_p 4)) + bI (¬ Int64.ofNat n < own_p 5)) + bI (¬ Int64.ofNat n < own_p 6)) + bI (¬ Int64.ofNat n < own_p 7)) + bI (¬ Int64.ofNat n < own_p 8)) + bI (¬ Int64.ofNat n < own_p 9)) + bI (¬ Int64.ofNat n < own_p 10)))] [(.int (11 : Int32)), (.ref P), (.long (Int64.ofNat n))])) rfl rfl (hb hby d1_121) _ w_k) ?_
    show Gd _ _ _ _ (s₁.setTop (mkF m 122 #[.val (.long (Int64.ofNat n)), .second, .val (.ref P), .val (.int (((((((((((1 : Int32) + bI (¬ Int64.ofNat n < own_p 1)) + bI (¬ Int64.ofNat n < own_p 2)) + bI (¬ Int64.ofNat n < own_p 3)) + bI (¬ Int64.ofNat n < own_p 4)) + bI (¬ Int64.ofNat n < own_p 5)) + bI (¬ Int64.ofNat n < own_p 6)) + bI (¬ Int64.ofNat n < own_p 7)) + bI (¬ Int64.ofNat n < own_p 8)) + bI (¬ Int64.ofNat n < own_p 9)) + bI (¬ Int64.ofNat n < own_p 10)))] [(.long (own_p 11)), (.long (Int64.ofNat n))]))
    refine Gd.go (fun _ w_k => XS.lcmp X0.here hx rfl (hb hby d1_122) rfl w_k) ?_
    show Gd _ _ _ _ (s₁.setTop (mkF m 123 #[.val (.long (Int64.ofNat n)), .second, .val (.ref P), .val (.int (((((((((((1 : Int32) + bI (¬ Int64.ofNat n < own_p 1)) + bI (¬ Int64.ofNat n < own_p 2)) + bI (¬ Int64.ofNat n < own_p 3)) + bI (¬ Int64.ofNat n < own_p 4)) + bI (¬ Int64.ofNat n < own_p 5)) + bI (¬ Int64.ofNat n < own_p 6)) + bI (¬ Int64.ofNat n < own_p 7)) + bI (¬ Int64.ofNat n < own_p 8)) + bI (¬ Int64.ofNat n < own_p 9)) + bI (¬ Int64.ofNat n < own_p 10)))] [(.int (lcmpW (Int64.ofNat n) (own_p 11)))]))
    by_cases hc42 : (Int64.ofNat n) < (own_p 11)
    · refine Gd.go (fun _ w_k => XS.ifYes X0.here hx rfl (pc0 := 123) (pc' := 129) rfl (hb hby d1_123) rfl ((if0 _ _).trans (tlt ((lw_lt _ _).mpr hc42)).1) (by decide) (by decide) w_k) ?_
      show Gd _ _ _ _ (s₁.setTop (mkF m 129 #[.val (.long (Int64.ofNat n)), .second, .val (.ref P), .val (.int (((((((((((1 : Int32) + bI (¬ Int64.ofNat n < own_p 1)) + bI (¬ Int64.ofNat n < own_p 2)) + bI (¬ Int64.ofNat n < own_p 3)) + bI (¬ Int64.ofNat n < own_p 4)) + bI (¬ Int64.ofNat n < own_p 5)) + bI (¬ Int64.ofNat n < own_p 6)) + bI (¬ Int64.ofNat n < own_p 7)) + bI (¬ Int64.ofNat n < own_p 8)) + bI (¬ Int64.ofNat n < own_p 9)) + bI (¬ Int64.ofNat n < own_p 10)))] []))
      have q43 : ((((((((((((1 : Int32) + bI (¬ Int64.ofNat n < own_p 1)) + bI (¬ Int64.ofNat n < own_p 2)) + bI (¬ Int64.ofNat n < own_p 3)) + bI (¬ Int64.ofNat n < own_p 4)) + bI (¬ Int64.ofNat n < own_p 5)) + bI (¬ Int64.ofNat n < own_p 6)) + bI (¬ Int64.ofNat n < own_p 7)) + bI (¬ Int64.ofNat n < own_p 8)) + bI (¬ Int64.ofNat n < own_p 9)) + bI (¬ Int64.ofNat n < own_p 10)) + bI (¬ Int64.ofNat n < own_p 11)) = (((((((((((1 : Int32) + bI (¬ Int64.ofNat n < own_p 1)) + bI (¬ Int64.ofNat n < own_p 2)) + bI (¬ Int64.ofNat n < own_p 3)) + bI (¬ Int64.ofNat n < own_p 4)) + bI (¬ Int64.ofNat n < own_p 5)) + bI (¬ Int64.ofNat n < own_p 6)) + bI (¬ Int64.ofNat n < own_p 7)) + bI (¬ Int64.ofNat n < own_p 8)) + bI (¬ Int64.ofNat n < own_p 9)) + bI (¬ Int64.ofNat n < own_p 10)) := own_jz _ hc42
      rw [q43] at J41
      exact J41
    · refine Gd.go (fun _ w_k => XS.ifNo X0.here hx rfl (hb hby d1_123) rfl ((if0 _ _).trans (flt (fun q => hc42 ((lw_lt _ _).mp q))).1) w_k) ?_
      show Gd _ _ _ _ (s₁.setTop (mkF m 126 #[.val (.long (Int64.ofNat n)), .second, .val (.ref P), .val (.int (((((((((((1 : Int32) + bI (¬ Int64.ofNat n < own_p 1)) + bI (¬ Int64.ofNat n < own_p 2)) + bI (¬ Int64.ofNat n < own_p 3)) + bI (¬ Int64.ofNat n < own_p 4)) + bI (¬ Int64.ofNat n < own_p 5)) + bI (¬ Int64.ofNat n < own_p 6)) + bI (¬ Int64.ofNat n < own_p 7)) + bI (¬ Int64.ofNat n < own_p 8)) + bI (¬ Int64.ofNat n < own_p 9)) + bI (¬ Int64.ofNat n < own_p 10)))] []))
      refine Gd.go (fun _ w_k => XS.iinc X0.here hx rfl (hb hby d1_126) rfl (l' := #[.val (.long (Int64.ofNat n)), .second, .val (.ref P), .val (.int ((((((((((((1 : Int32) + bI (¬ Int64.ofNat n < own_p 1)) + bI (¬ Int64.ofNat n < own_p 2)) + bI (¬ Int64.ofNat n < own_p 3)) + bI (¬ Int64.ofNat n < own_p 4)) + bI (¬ Int64.ofNat n < own_p 5)) + bI (¬ Int64.ofNat n < own_p 6)) + bI (¬ Int64.ofNat n < own_p 7)) + bI (¬ Int64.ofNat n < own_p 8)) + bI (¬ Int64.ofNat n < own_p 9)) + bI (¬ Int64.ofNat n < own_p 10)) + (1 : Int32)))]) rfl w_k) ?_
      show Gd _ _ _ _ (s₁.setTop (mkF m 129 #[.val (.long (Int64.ofNat n)), .second, .val (.ref P), .val (.int ((((((((((((1 : Int32) + bI (¬ Int64.ofNat n < own_p 1)) + bI (¬ Int64.ofNat n < own_p 2)) + bI (¬ Int64.ofNat n < own_p 3)) + bI (¬ Int64.ofNat n < own_p 4)) + bI (¬ Int64.ofNat n < own_p 5)) + bI (¬ Int64.ofNat n < own_p 6)) + bI (¬ Int64.ofNat n < own_p 7)) + bI (¬ Int64.ofNat n < own_p 8)) + bI (¬ Int64.ofNat n < own_p 9)) + bI (¬ Int64.ofNat n < own_p 10)) + (1 : Int32)))] []))
      have q44 : ((((((((((((1 : Int32) + bI (¬ Int64.ofNat n < own_p 1)) + bI (¬ Int64.ofNat n < own_p 2)) + bI (¬ Int64.ofNat n < own_p 3)) + bI (¬ Int64.ofNat n < own_p 4)) + bI (¬ Int64.ofNat n < own_p 5)) + bI (¬ Int64.ofNat n < own_p 6)) + bI (¬ Int64.ofNat n < own_p 7)) + bI (¬ Int64.ofNat n < own_p 8)) + bI (¬ Int64.ofNat n < own_p 9)) + bI (¬ Int64.ofNat n < own_p 10)) + bI (¬ Int64.ofNat n < own_p 11)) = ((((((((((((1 : Int32) + bI (¬ Int64.ofNat n < own_p 1)) + bI (¬ Int64.ofNat n < own_p 2)) + bI (¬ Int64.ofNat n < own_p 3)) + bI (¬ Int64.ofNat n < own_p 4)) + bI (¬ Int64.ofNat n < own_p 5)) + bI (¬ Int64.ofNat n < own_p 6)) + bI (¬ Int64.ofNat n < own_p 7)) + bI (¬ Int64.ofNat n < own_p 8)) + bI (¬ Int64.ofNat n < own_p 9)) + bI (¬ Int64.ofNat n < own_p 10)) + (1 : Int32)) := own_jo _ hc42
      rw [q44] at J41
      exact J41
  show Gd _ _ _ _ (s₁.setTop (mkF m 129 #[.val (.long (Int64.ofNat n)), .second, .val (.ref P), .val (.int ((((((((((((1 : Int32) + bI (¬ Int64.ofNat n < own_p 1)) + bI (¬ Int64.ofNat n < own_p 2)) + bI (¬ Int64.ofNat n < own_p 3)) + bI (¬ Int64.ofNat n < own_p 4)) + bI (¬ Int64.ofNat n < own_p 5)) + bI (¬ Int64.ofNat n < own_p 6)) + bI (¬ Int64.ofNat n < own_p 7)) + bI (¬ Int64.ofNat n < own_p 8)) + bI (¬ Int64.ofNat n < own_p 9)) + bI (¬ Int64.ofNat n < own_p 10)) + bI (¬ Int64.ofNat n < own_p 11)))] []))
  refine Gd.via (S' := s₁.setTop (mkF m 141 #[.val (.long (Int64.ofNat n)), .second, .val (.ref P), .val (.int (((((((((((((1 : Int32) + bI (¬ Int64.ofNat n < own_p 1)) + bI (¬ Int64.ofNat n < own_p 2)) + bI (¬ Int64.ofNat n < own_p 3)) + bI (¬ Int64.ofNat n < own_p 4)) + bI (¬ Int64.ofNat n < own_p 5)) + bI (¬ Int64.ofNat n < own_p 6)) + bI (¬ Int64.ofNat n < own_p 7)) + bI (¬ Int64.ofNat n < own_p 8)) + bI (¬ Int64.ofNat n < own_p 9)) + bI (¬ Int64.ofNat n < own_p 10)) + bI (¬ Int64.ofNat n < own_p 11)) + bI (¬ Int64.ofNat n < own_p 12)))] [])) (fun J45 => ?_) ?_
  · refine Gd.go (fun _ w_k => XS.lloadN X0.here hx rfl (hb hby d1_129) rfl w_k) ?_
    show Gd _ _ _ _ (s₁.setTop (mkF m 130 #[.val (.long (Int64.ofNat n)), .second, .val (.ref P), .val (.int ((((((((((((1 : Int32) + bI (¬ Int64.ofNat n < own_p 1)) + bI (¬ Int64.ofNat n < own_p 2)) + bI (¬ Int64.ofNat n < own_p 3)) + bI (¬ Int64.ofNat n < own_p 4)) + bI (¬ Int64.ofNat n < own_p 5)) + bI (¬ Int64.ofNat n < own_p 6)) + bI (¬ Int64.ofNat n < own_p 7)) + bI (¬ Int64.ofNat n < own_p 8)) + bI (¬ Int64.ofNat n < own_p 9)) + bI (¬ Int64.ofNat n < own_p 10)) + bI (¬ Int64.ofNat n < own_p 11)))] [(.long (Int64.ofNat n))]))
    refine Gd.go (fun _ w_k => XS.aloadN X0.here hx rfl (hb hby d1_130) rfl rfl w_k) ?_
    show Gd _ _ _ _ (s₁.setTop (mkF m 131 #[.val (.long (Int64.ofNat n)), .second, .val (.ref P), .val (.int ((((((((((((1 : Int32) + bI (¬ Int64.ofNat n < own_p 1)) + bI (¬ Int64.ofNat n < own_p 2)) + bI (¬ Int64.ofNat n < own_p 3)) + bI (¬ Int64.ofNat n < own_p 4)) + bI (¬ Int64.ofNat n < own_p 5)) + bI (¬ Int64.ofNat n < own_p 6)) + bI (¬ Int64.ofNat n < own_p 7)) + bI (¬ Int64.ofNat n < own_p 8)) + bI (¬ Int64.ofNat n < own_p 9)) + bI (¬ Int64.ofNat n < own_p 10)) + bI (¬ Int64.ofNat n < own_p 11)))] [(.ref P), (.long (Int64.ofNat n))]))
    refine Gd.go (fun _ w_k => XS.bipush X0.here hx rfl (hb hby d1_131) w_k) ?_
    show Gd _ _ _ _ (s₁.setTop (mkF m 133 #[.val (.long (Int64.ofNat n)), .second, .val (.ref P), .val (.int ((((((((((((1 : Int32) + bI (¬ Int64.ofNat n < own_p 1)) + bI (¬ Int64.ofNat n < own_p 2)) + bI (¬ Int64.ofNat n < own_p 3)) + bI (¬ Int64.ofNat n < own_p 4)) + bI (¬ Int64.ofNat n < own_p 5)) + bI (¬ Int64.ofNat n < own_p 6)) + bI (¬ Int64.ofNat n < own_p 7)) + bI (¬ Int64.ofNat n < own_p 8)) + bI (¬ Int64.ofNat n < own_p 9)) + bI (¬ Int64.ofNat n < own_p 10)) + bI (¬ Int64.ofNat n < own_p 11)))] [(.int (12 : Int32)), (.ref P), (.long (Int64.ofNat n))]))
    refine Gd.go (fun _ w_k => own_ldJ X0 hx hZ e0 AP (j := (12 : Int32)) (by decide) (by decide) (v := (.long (own_p 12))) rfl (g := (mkF m 133 #[.val (.long (Int64.ofNat n)), .second, .val (.ref P), .val (.int ((((((((((((1 : Int32) + bI (¬ Int64.ofNat n < own_p 1)) + bI (¬ Int64.ofNat n < own_p 2)) + bI (¬ Int64.ofNat n < own_p 3)) + bI (¬ Int64.ofNat n < own_p 4)) + bI (¬ Int64.ofNat n < own_p 5)) + bI (¬ Int64.ofNat n < own_p 6)) + bI (¬ Int64.ofNat n < own_p 7)) + bI (¬ Int64.ofNat n < own_p 8)) + bI (¬ Int64.ofNat n < own_p 9)) + bI (¬ Int64.ofNat n < own_p 10)) + bI (¬ Int64.ofNat n < own_p 11)))] [(.int (12 : Int32)), (.ref P), (.long (Int64.ofNat n))])) rfl rfl (hb hby d1_133) _ w_k) ?_
    show Gd _ _ _ _ (s₁.setTop (mkF m 134 #[.val (.long (Int64.ofNat n)), .second, .val (.ref P), .val (.int ((((((((((((1 : Int32) + bI (¬ Int64.ofNat n < own_p 1)) + bI (¬ Int64.ofNat n < own_p 2)) + bI (¬ Int64.ofNat n < own_p 3)) + bI (¬ Int64.ofNat n < own_p 4)) + bI (¬ Int64.ofNat n < own_p 5)) + bI (¬ Int64.ofNat n < own_p 6)) + bI (¬ Int64.ofNat n < own_p 7)) + bI (¬ Int64.ofNat n < own_p 8)) + bI (¬ Int64.ofNat n < own_p 9)) + bI (¬ Int64.ofNat n < own_p 10)) + bI (¬ Int64.ofNat n < own_p 11)))] [(.long (own_p 12)), (.long (Int64.ofNat n))]))
    refine Gd.go (fun _ w_k => XS.lcmp X0.here hx rfl (hb hby d1_134) rfl w_k) ?_
    show Gd _ _ _ _ (s₁.setTop (mkF m 135 #[.val (.long (Int64.ofNat n)), .second, .val (.ref P), .val (.int ((((((((((((1 : Int32) + bI (¬ Int64.ofNat n < own_p 1)) + bI (¬ Int64.ofNat n < own_p 2)) + bI (¬ Int64.ofNat n < own_p 3)) + bI (¬ Int64.ofNat n < own_p 4)) + bI (¬ Int64.ofNat n < own_p 5)) + bI (¬ Int64.ofNat n < own_p 6)) + bI (¬ Int64.ofNat n < own_p 7)) + bI (¬ Int64.ofNat n < own_p 8)) + bI (¬ Int64.ofNat n < own_p 9)) + bI (¬ Int64.ofNat n < own_p 10)) + bI (¬ Int64.ofNat n < own_p 11)))] [(.int (lcmpW (Int64.ofNat n) (own_p 12)))]))
    by_cases hc46 : (Int64.ofNat n) < (own_p 12)
    · refine Gd.go (fun _ w_k => XS.ifYes X0.here hx rfl (pc0 := 135) (pc' := 141) rfl (hb hby d1_135) rfl ((if0 _ _).trans (tlt ((lw_lt _ _).mpr hc46)).1) (by decide) (by decide) w_k) ?_
      show Gd _ _ _ _ (s₁.setTop (mkF m 141 #[.val (.long (Int64.ofNat n)), .second, .val (.ref P), .val (.int ((((((((((((1 : Int32) + bI (¬ Int64.ofNat n < own_p 1)) + bI (¬ Int64.ofNat n < own_p 2)) + bI (¬ Int64.ofNat n < own_p 3)) + bI (¬ Int64.ofNat n < own_p 4)) + bI (¬ Int64.ofNat n < own_p 5)) + bI (¬ Int64.ofNat n < own_p 6)) + bI (¬ Int64.ofNat n < own_p 7)) + bI (¬ Int64.ofNat n < own_p 8)) + bI (¬ Int64.ofNat n < own_p 9)) + bI (¬ Int64.ofNat n < own_p 10)) + bI (¬ Int64.ofNat n < own_p 11)))] []))
      have q47 : (((((((((((((1 : Int32) + bI (¬ Int64.ofNat n < own_p 1)) + bI (¬ Int64.ofNat n < own_p 2)) + bI (¬ Int64.ofNat n < own_p 3)) + bI (¬ Int64.ofNat n < own_p 4)) + bI (¬ Int64.ofNat n < own_p 5)) + bI (¬ Int64.ofNat n < own_p 6)) + bI (¬ Int64.ofNat n < own_p 7)) + bI (¬ Int64.ofNat n < own_p 8)) + bI (¬ Int64.ofNat n < own_p 9)) + bI (¬ Int64.ofNat n < own_p 10)) + bI (¬ Int64.ofNat n < own_p 11)) + bI (¬ Int64.ofNat n < own_p 12)) = ((((((((((((1 : Int32) + bI (¬ Int64.ofNat n < own_p 1)) + bI (¬ Int64.ofNat n < own_p 2)) + bI (¬ Int64.ofNat n < own_p 3)) + bI (¬ Int64.ofNat n < own_p 4)) + bI (¬ Int64.ofNat n < own_p 5)) + bI (¬ Int64.ofNat n < own_p 6)) + bI (¬ Int64.ofNat n < own_p 7)) + bI (¬ Int64.ofNat n < own_p 8)) + bI (¬ Int64.ofNat n < own_p 9)) + bI (¬ Int64.ofNat n < own_p 10)) + bI (¬ Int64.ofNat n < own_p 11)) := own_jz _ hc46
      rw [q47] at J45
      exact J45
    · refine Gd.go (fun _ w_k => XS.ifNo X0.here hx rfl (hb hby d1_135) rfl ((if0 _ _).trans (flt (fun q => hc46 ((lw_lt _ _).mp q))).1) w_k) ?_
      show Gd _ _ _ _ (s₁.setTop (mkF m 138 #[.val (.long (Int64.ofNat n)), .second, .val (.ref P), .val (.int ((((((((((((1 : Int32) + bI (¬ Int64.ofNat n < own_p 1)) + bI (¬ Int64.ofNat n < own_p 2)) + bI (¬ Int64.ofNat n < own_p 3)) + bI (¬ Int64.ofNat n < own_p 4)) + bI (¬ Int64.ofNat n < own_p 5)) + bI (¬ Int64.ofNat n < own_p 6)) + bI (¬ Int64.ofNat n < own_p 7)) + bI (¬ Int64.ofNat n < own_p 8)) + bI (¬ Int64.ofNat n < own_p 9)) + bI (¬ Int64.ofNat n < own_p 10)) + bI (¬ Int64.ofNat n < own_p 11)))] []))
      refine Gd.go (fun _ w_k => XS.iinc X0.here hx rfl (hb hby d1_138) rfl (l' := #[.val (.long (Int64.ofNat n)), .second, .val (.ref P), .val (.int (((((((((((((1 : Int32) + bI (¬ Int64.ofNat n < own_p 1)) + bI (¬ Int64.ofNat n < own_p 2)) + bI (¬ Int64.ofNat n < own_p 3)) + bI (¬ Int64.ofNat n < own_p 4)) + bI (¬ Int64.ofNat n < own_p 5)) + bI (¬ Int64.ofNat n < own_p 6)) + bI (¬ Int64.ofNat n < own_p 7)) + bI (¬ Int64.ofNat n < own_p 8)) + bI (¬ Int64.ofNat n < own_p 9)) + bI (¬ Int64.ofNat n < own_p 10)) + bI (¬ Int64.ofNat n < own_p 11)) + (1 : Int32)))]) rfl w_k) ?_
      show Gd _ _ _ _ (s₁.setTop (mkF m 141 #[.val (.long (Int64.ofNat n)), .second, .val (.ref P), .val (.int (((((((((((((1 : Int32) + bI (¬ Int64.ofNat n < own_p 1)) + bI (¬ Int64.ofNat n < own_p 2)) + bI (¬ Int64.ofNat n < own_p 3)) + bI (¬ Int64.ofNat n < own_p 4)) + bI (¬ Int64.ofNat n < own_p 5)) + bI (¬ Int64.ofNat n < own_p 6)) + bI (¬ Int64.ofNat n < own_p 7)) + bI (¬ Int64.ofNat n < own_p 8)) + bI (¬ Int64.ofNat n < own_p 9)) + bI (¬ Int64.ofNat n < own_p 10)) + bI (¬ Int64.ofNat n < own_p 11)) + (1 : Int32)))] []))
      have q48 : (((((((((((((1 : Int32) + bI (¬ Int64.ofNat n < own_p 1)) + bI (¬ Int64.ofNat n < own_p 2)) + bI (¬ Int64.ofNat n < own_p 3)) + bI (¬ Int64.ofNat n < own_p 4)) + bI (¬ Int64.ofNat n < own_p 5)) + bI (¬ Int64.ofNat n < own_p 6)) + bI (¬ Int64.ofNat n < own_p 7)) + bI (¬ Int64.ofNat n < own_p 8)) + bI (¬ Int64.ofNat n < own_p 9)) + bI (¬ Int64.ofNat n < own_p 10)) + bI (¬ Int64.ofNat n < own_p 11)) + bI (¬ Int64.ofNat n < own_p 12)) = (((((((((((((1 : Int32) + bI (¬ Int64.ofNat n < own_p 1)) + bI (¬ Int64.ofNat n < own_p 2)) + bI (¬ Int64.ofNat n < own_p 3)) + bI (¬ Int64.ofNat n < own_p 4)) + bI (¬ Int64.ofNat n < own_p 5)) + bI (¬ Int64.ofNat n < own_p 6)) + bI (¬ Int64.ofNat n < own_p 7)) + bI (¬ Int64.ofNat n < own_p 8)) + bI (¬ Int64.ofNat n < own_p 9)) + bI (¬ Int64.ofNat n < own_p 10)) + bI (¬ Int64.ofNat n < own_p 11)) + (1 : Int32)) := own_jo _ hc46
      rw [q48] at J45
      exact J45
  show Gd _ _ _ _ (s₁.setTop (mkF m 141 #[.val (.long (Int64.ofNat n)), .second, .val (.ref P), .val (.int (((((((((((((1 : Int32) + bI (¬ Int64.ofNat n < own_p 1)) + bI (¬ Int64.ofNat n < own_p 2)) + bI (¬ Int64.ofNat n < own_p 3)) + bI (¬ Int64.ofNat n < own_p 4)) + bI (¬ Int64.ofNat n < own_p 5)) + bI (¬ Int64.ofNat n < own_p 6)) + bI (¬ Int64.ofNat n < own_p 7)) + bI (¬ Int64.ofNat n < own_p 8)) + bI (¬ Int64.ofNat n < own_p 9)) + bI (¬ Int64.ofNat n < own_p 10)) + bI (¬ Int64.ofNat n < own_p 11)) + bI (¬ Int64.ofNat n < own_p 12)))] []))
  refine Gd.via (S' := s₁.setTop (mkF m 153 #[.val (.long (Int64.ofNat n)), .second, .val (.ref P), .val (.int ((((((((((((((1 : Int32) + bI (¬ Int64.ofNat n < own_p 1)) + bI (¬ Int64.ofNat n < own_p 2)) + bI (¬ Int64.ofNat n < own_p 3)) + bI (¬ Int64.ofNat n < own_p 4)) + bI (¬ Int64.ofNat n < own_p 5)) + bI (¬ Int64.ofNat n < own_p 6)) + bI (¬ Int64.ofNat n < own_p 7)) + bI (¬ Int64.ofNat n < own_p 8)) + bI (¬ Int64.ofNat n < own_p 9)) + bI (¬ Int64.ofNat n < own_p 10)) + bI (¬ Int64.ofNat n < own_p 11)) + bI (¬ Int64.ofNat n < own_p 12)) + bI (¬ Int64.ofNat n < own_p 13)))] [])) (fun J49 => ?_) ?_
  · refine Gd.go (fun _ w_k => XS.lloadN X0.here hx rfl (hb hby d1_141) rfl w_k) ?_
    show Gd _ _ _ _ (s₁.setTop (mkF m 142 #[.val (.long (Int64.ofNat n)), .second, .val (.ref P), .val (.int (((((((((((((1 : Int32) + bI (¬ Int64.ofNat n < own_p 1)) + bI (¬ Int64.ofNat n < own_p 2)) + bI (¬ Int64.ofNat n < own_p 3)) + bI (¬ Int64.ofNat n < own_p 4)) + bI (¬ Int64.ofNat n < own_p 5)) + bI (¬ Int64.ofNat n < own_p 6)) + bI (¬ Int64.ofNat n < own_p 7)) + bI (¬ Int64.ofNat n < own_p 8)) + bI (¬ Int64.ofNat n < own_p 9)) + bI (¬ Int64.ofNat n < own_p 10)) + bI (¬ Int64.ofNat n < own_p 11)) + bI (¬ Int64.ofNat n < own_p 12)))] [(.long (Int64.ofNat n))]))
    refine Gd.go (fun _ w_k => XS.aloadN X0.here hx rfl (hb hby d1_142) rfl rfl w_k) ?_
    show Gd _ _ _ _ (s₁.setTop (mkF m 143 #[.val (.long (Int64.ofNat n)), .second, .val (.ref P), .val (.int (((((((((((((1 : Int32) + bI (¬ Int64.ofNat n < own_p 1)) + bI (¬ Int64.ofNat n < own_p 2)) + bI (¬ Int64.ofNat n < own_p 3)) + bI (¬ Int64.ofNat n < own_p 4)) + bI (¬ Int64.ofNat n < own_p 5)) + bI (¬ Int64.ofNat n < own_p 6)) + bI (¬ Int64.ofNat n < own_p 7)) + bI (¬ Int64.ofNat n < own_p 8)) + bI (¬ Int64.ofNat n < own_p 9)) + bI (¬ Int64.ofNat n < own_p 10)) + bI (¬ Int64.ofNat n < own_p 11)) + bI (¬ Int64.ofNat n < own_p 12)))] [(.ref P), (.long (Int64.ofNat n))]))
    refine Gd.go (fun _ w_k => XS.bipush X0.here hx rfl (hb hby d1_143) w_k) ?_
    show Gd _ _ _ _ (s₁.setTop (mkF m 145 #[.val (.long (Int64.ofNat n)), .second, .val (.ref P), .val (.int (((((((((((((1 : Int32) + bI (¬ Int64.ofNat n < own_p 1)) + bI (¬ Int64.ofNat n < own_p 2)) + bI (¬ Int64.ofNat n < own_p 3)) + bI (¬ Int64.ofNat n < own_p 4)) + bI (¬ Int64.ofNat n < own_p 5)) + bI (¬ Int64.ofNat n < own_p 6)) + bI (¬ Int64.ofNat n < own_p 7)) + bI (¬ Int64.ofNat n < own_p 8)) + bI (¬ Int64.ofNat n < own_p 9)) + bI (¬ Int64.ofNat n < own_p 10)) + bI (¬ Int64.ofNat n < own_p 11)) + bI (¬ Int64.ofNat n < own_p 12)))] [(.int (13 : Int32)), (.ref P), (.long (Int64.ofNat n))]))
    refine Gd.go (fun _ w_k => own_ldJ X0 hx hZ e0 AP (j := (13 : Int32)) (by decide) (by decide) (v := (.long (own_p 13))) rfl (g := (mkF m 145 #[.val (.long (Int64.ofNat n)), .second, .val (.ref P), .val (.int (((((((((((((1 : Int32) + bI (¬ Int64.ofNat n < own_p 1)) + bI (¬ Int64.ofNat n < own_p 2)) + bI (¬ Int64.ofNat n < own_p 3)) + bI (¬ Int64.ofNat n < own_p 4)) + bI (¬ Int64.ofNat n < own_p 5)) + bI (¬ Int64.ofNat n < own_p 6)) + bI (¬ Int64.ofNat n < own_p 7)) + bI (¬ Int64.ofNat n < own_p 8)) + bI (¬ Int64.ofNat n < own_p 9)) + bI (¬ Int64.ofNat n < own_p 10)) + bI (¬ Int64.ofNat n < own_p 11)) + bI (¬ Int64.ofNat n < own_p 12)))] [(.int (13 : Int32)), (.ref P), (.long (Int64.ofNat n))])) rfl rfl (hb hby d1_145) _ w_k) ?_
    show Gd _ _ _ _ (s₁.setTop (mkF m 146 #[.val (.long (Int64.ofNat n)), .second, .val (.ref P), .val (.int (((((((((((((1 : Int32) + bI (¬ Int64.ofNat n < own_p 1)) + bI (¬ Int64.ofNat n < own_p 2)) + bI (¬ Int64.ofNat n < own_p 3)) + bI (¬ Int64.ofNat n < own_p 4)) + bI (¬ Int64.ofNat n < own_p 5)) + bI (¬ Int64.ofNat n < own_p 6)) + bI (¬ Int64.ofNat n < own_p 7)) + bI (¬ Int64.ofNat n < own_p 8)) + bI (¬ Int64.ofNat n < own_p 9)) + bI (¬ Int64.ofNat n < own_p 10)) + bI (¬ Int64.ofNat n < own_p 11)) + bI (¬ Int64.ofNat n < own_p 12)))] [(.long (own_p 13)), (.long (Int64.ofNat n))]))
    refine Gd.go (fun _ w_k => XS.lcmp X0.here hx rfl (hb hby d1_146) rfl w_k) ?_
    show Gd _ _ _ _ (s₁.setTop (mkF m 147 #[.val (.long (Int64.ofNat n)), .second, .val (.ref P), .val (.int (((((((((((((1 : Int32) + bI (¬ Int64.ofNat n < own_p 1)) + bI (¬ Int64.ofNat n < own_p 2)) + bI (¬ Int64.ofNat n < own_p 3)) + bI (¬ Int64.ofNat n < own_p 4)) + bI (¬ Int64.ofNat n < own_p 5)) + bI (¬ Int64.ofNat n < own_p 6)) + bI (¬ Int64.ofNat n < own_p 7)) + bI (¬ Int64.ofNat n < own_p 8)) + bI (¬ Int64.ofNat n < own_p 9)) + bI (¬ Int64.ofNat n < own_p 10)) + bI (¬ Int64.ofNat n < own_p 11)) + bI (¬ Int64.ofNat n < own_p 12)))] [(.int (lcmpW (Int64.ofNat n) (own_p 13)))]))
    by_cases hc50 : (Int64.ofNat n) < (own_p 13)
    · refine Gd.go (fun _ w_k => XS.ifYes X0.here hx rfl (pc0 := 147) (pc' := 153) rfl (hb hby d1_147) rfl ((if0 _ _).trans (tlt ((lw_lt _ _).mpr hc50)).1) (by decide) (by decide) w_k) ?_
      show Gd _ _ _ _ (s₁.setTop (mkF m 153 #[.val (.long (Int64.ofNat n)), .second, .val (.ref P), .val (.int (((((((((((((1 : Int32) + bI (¬ Int64.ofNat n < own_p 1)) + bI (¬ Int64.ofNat n < own_p 2)) + bI (¬ Int64.ofNat n < own_p 3)) + bI (¬ Int64.ofNat n < own_p 4)) + bI (¬ Int64.ofNat n < own_p 5)) + bI (¬ Int64.ofNat n < own_p 6)) + bI (¬ Int64.ofNat n < own_p 7)) + bI (¬ Int64.ofNat n < own_p 8)) + bI (¬ Int64.ofNat n < own_p 9)) + bI (¬ Int64.ofNat n < own_p 10)) + bI (¬ Int64.ofNat n < own_p 11)) + bI (¬ Int64.ofNat n < own_p 12)))] []))
      have q51 : ((((((((((((((1 : Int32) + bI (¬ Int64.ofNat n < own_p 1)) + bI (¬ Int64.ofNat n < own_p 2)) + bI (¬ Int64.ofNat n < own_p 3)) + bI (¬ Int64.ofNat n < own_p 4)) + bI (¬ Int64.ofNat n < own_p 5)) + bI (¬ Int64.ofNat n < own_p 6)) + bI (¬ Int64.ofNat n < own_p 7)) + bI (¬ Int64.ofNat n < own_p 8)) + bI (¬ Int64.ofNat n < own_p 9)) + bI (¬ Int64.ofNat n < own_p 10)) + bI (¬ Int64.ofNat n < own_p 11)) + bI (¬ Int64.ofNat n < own_p 12)) + bI (¬ Int64.ofNat n < own_p 13)) = (((((((((((((1 : Int32) + bI (¬ Int64.ofNat n < own_p 1)) + bI (¬ Int64.ofNat n < own_p 2)) + bI (¬ Int64.ofNat n < own_p 3)) + bI (¬ Int64.ofNat n < own_p 4)) + bI (¬ Int64.ofNat n < own_p 5)) + bI (¬ Int64.ofNat n < own_p 6)) + bI (¬ Int64.ofNat n < own_p 7)) + bI (¬ Int64.ofNat n < own_p 8)) + bI (¬ Int64.ofNat n < own_p 9)) + bI (¬ Int64.ofNat n < own_p 10)) + bI (¬ Int64.ofNat n < own_p 11)) + bI (¬ Int64.ofNat n < own_p 12)) := own_jz _ hc50
      rw [q51] at J49
      exact J49
    · refine Gd.go (fun _ w_k => XS.ifNo X0.here hx rfl (hb hby d1_147) rfl ((if0 _ _).trans (flt (fun q => hc50 ((lw_lt _ _).mp q))).1) w_k) ?_
      show Gd _ _ _ _ (s₁.setTop (mkF m 150 #[.val (.long (Int64.ofNat n)), .second, .val (.ref P), .val (.int (((((((((((((1 : Int32) + bI (¬ Int64.ofNat n < own_p 1)) + bI (¬ Int64.ofNat n < own_p 2)) + bI (¬ Int64.ofNat n < own_p 3)) + bI (¬ Int64.ofNat n < own_p 4)) + bI (¬ Int64.ofNat n < own_p 5)) + bI (¬ Int64.ofNat n < own_p 6)) + bI (¬ Int64.ofNat n < own_p 7)) + bI (¬ Int64.ofNat n < own_p 8)) + bI (¬ Int64.ofNat n < own_p 9)) + bI (¬ Int64.ofNat n < own_p 10)) + bI (¬ Int64.ofNat n < own_p 11)) + bI (¬ Int64.ofNat n < own_p 12)))] []))
      refine Gd.go (fun _ w_k => XS.iinc X0.here hx rfl (hb hby d1_150) rfl (l' := #[.val (.long (Int64.ofNat n)), .second, .val (.ref P), .val (.int ((((((((((((((1 : Int32) + bI (¬ Int64.ofNat n < own_p 1)) + bI (¬ Int64.ofNat n < own_p 2)) + bI (¬ Int64.ofNat n < own_p 3)) + bI (¬ Int64.ofNat n < own_p 4)) + bI (¬ Int64.ofNat n < own_p 5)) + bI (¬ Int64.ofNat n < own_p 6)) + bI (¬ Int64.ofNat n < own_p 7)) + bI (¬ Int64.ofNat n < own_p 8)) + bI (¬ Int64.ofNat n < own_p 9)) + bI (¬ Int64.ofNat n < own_p 10)) + bI (¬ Int64.ofNat n < own_p 11)) + bI (¬ Int64.ofNat n < own_p 12)) + (1 : Int32)))]) rfl w_k) ?_
      show Gd _ _ _ _ (s₁.setTop (mkF m 153 #[.val (.long (Int64.ofNat n)), .second, .val (.ref P), .val (.int ((((((((((((((1 : Int32) + bI (¬ Int64.ofNat n < own_p 1)) + bI (¬ Int64.ofNat n < own_p 2)) + bI (¬ Int64.ofNat n < own_p 3)) + bI (¬ Int64.ofNat n < own_p 4)) + bI (¬ Int64.ofNat n < own_p 5)) + bI (¬ Int64.ofNat n < own_p 6)) + bI (¬ Int64.ofNat n < own_p 7)) + bI (¬ Int64.ofNat n < own_p 8)) + bI (¬ Int64.ofNat n < own_p 9)) + bI (¬ Int64.ofNat n < own_p 10)) + bI (¬ Int64.ofNat n < own_p 11)) + bI (¬ Int64.ofNat n < own_p 12)) + (1 : Int32)))] []))
      have q52 : ((((((((((((((1 : Int32) + bI (¬ Int64.ofNat n < own_p 1)) + bI (¬ Int64.ofNat n < own_p 2)) + bI (¬ Int64.ofNat n < own_p 3)) + bI (¬ Int64.ofNat n < own_p 4)) + bI (¬ Int64.ofNat n < own_p 5)) + bI (¬ Int64.ofNat n < own_p 6)) + bI (¬ Int64.ofNat n < own_p 7)) + bI (¬ Int64.ofNat n < own_p 8)) + bI (¬ Int64.ofNat n < own_p 9)) + bI (¬ Int64.ofNat n < own_p 10)) + bI (¬ Int64.ofNat n < own_p 11)) + bI (¬ Int64.ofNat n < own_p 12)) + bI (¬ Int64.ofNat n < own_p 13)) = ((((((((((((((1 : Int32) + bI (¬ Int64.ofNat n < own_p 1)) + bI (¬ Int64.ofNat n < own_p 2)) + bI (¬ Int64.ofNat n < own_p 3)) + bI (¬ Int64.ofNat n < own_p 4)) + bI (¬ Int64.ofNat n < own_p 5)) + bI (¬ Int64.ofNat n < own_p 6)) + bI (¬ Int64.ofNat n < own_p 7)) + bI (¬ Int64.ofNat n < own_p 8)) + bI (¬ Int64.ofNat n < own_p 9)) + bI (¬ Int64.ofNat n < own_p 10)) + bI (¬ Int64.ofNat n < own_p 11)) + bI (¬ Int64.ofNat n < own_p 12)) + (1 : Int32)) := own_jo _ hc50
      rw [q52] at J49
      exact J49
  show Gd _ _ _ _ (s₁.setTop (mkF m 153 #[.val (.long (Int64.ofNat n)), .second, .val (.ref P), .val (.int ((((((((((((((1 : Int32) + bI (¬ Int64.ofNat n < own_p 1)) + bI (¬ Int64.ofNat n < own_p 2)) + bI (¬ Int64.ofNat n < own_p 3)) + bI (¬ Int64.ofNat n < own_p 4)) + bI (¬ Int64.ofNat n < own_p 5)) + bI (¬ Int64.ofNat n < own_p 6)) + bI (¬ Int64.ofNat n < own_p 7)) + bI (¬ Int64.ofNat n < own_p 8)) + bI (¬ Int64.ofNat n < own_p 9)) + bI (¬ Int64.ofNat n < own_p 10)) + bI (¬ Int64.ofNat n < own_p 11)) + bI (¬ Int64.ofNat n < own_p 12)) + bI (¬ Int64.ofNat n < own_p 13)))] []))
  refine Gd.via (S' := s₁.setTop (mkF m 165 #[.val (.long (Int64.ofNat n)), .second, .val (.ref P), .val (.int (((((((((((((((1 : Int32) + bI (¬ Int64.ofNat n < own_p 1)) + bI (¬ Int64.ofNat n < own_p 2)) + bI (¬ Int64.ofNat n < own_p 3)) + bI (¬ Int64.ofNat n < own_p 4)) + bI (¬ Int64.ofNat n < own_p 5)) + bI (¬ Int64.ofNat n < own_p 6)) + bI (¬ Int64.ofNat n < own_p 7)) + bI (¬ Int64.ofNat n < own_p 8)) + bI (¬ Int64.ofNat n < own_p 9)) + bI (¬ Int64.ofNat n < own_p 10)) + bI (¬ Int64.ofNat n < own_p 11)) + bI (¬ Int64.ofNat n < own_p 12)) + bI (¬ Int64.ofNat n < own_p 13)) + bI (¬ Int64.ofNat n < own_p 14)))] [])) (fun J53 => ?_) ?_
  · refine Gd.go (fun _ w_k => XS.lloadN X0.here hx rfl (hb hby d1_153) rfl w_k) ?_
    show Gd _ _ _ _ (s₁.setTop (mkF m 154 #[.val (.long (Int64.ofNat n)), .second, .val (.ref P), .val (.int ((((((((((((((1 : Int32) + bI (¬ Int64.ofNat n < own_p 1)) + bI (¬ Int64.ofNat n < own_p 2)) + bI (¬ Int64.ofNat n < own_p 3)) + bI (¬ Int64.ofNat n < own_p 4)) + bI (¬ Int64.ofNat n < own_p 5)) + bI (¬ Int64.ofNat n < own_p 6)) + bI (¬ Int64.ofNat n < own_p 7)) + bI (¬ Int64.ofNat n < own_p 8)) + bI (¬ Int64.ofNat n < own_p 9)) + bI (¬ Int64.ofNat n < own_p 10)) + bI (¬ Int64.ofNat n < own_p 11)) + bI (¬ Int64.ofNat n < own_p 12)) + bI (¬ Int64.ofNat n < own_p 13)))] [(.long (Int64.ofNat n))]))
    refine Gd.go (fun _ w_k => XS.aloadN X0.here hx rfl (hb hby d1_154) rfl rfl w_k) ?_
    show Gd _ _ _ _ (s₁.setTop (mkF m 155 #[.val (.long (Int64.ofNat n)), .second, .val (.ref P), .val (.int ((((((((((((((1 : Int32) + bI (¬ Int64.ofNat n < own_p 1)) + bI (¬ Int64.ofNat n < own_p 2)) + bI (¬ Int64.ofNat n < own_p 3)) + bI (¬ Int64.ofNat n < own_p 4)) + bI (¬ Int64.ofNat n < own_p 5)) + bI (¬ Int64.ofNat n < own_p 6)) + bI (¬ Int64.ofNat n < own_p 7)) + bI (¬ Int64.ofNat n < own_p 8)) + bI (¬ Int64.ofNat n < own_p 9)) + bI (¬ Int64.ofNat n < own_p 10)) + bI (¬ Int64.ofNat n < own_p 11)) + bI (¬ Int64.ofNat n < own_p 12)) + bI (¬ Int64.ofNat n < own_p 13)))] [(.ref P), (.long (Int64.ofNat n))]))
    refine Gd.go (fun _ w_k => XS.bipush X0.here hx rfl (hb hby d1_155) w_k) ?_
    show Gd _ _ _ _ (s₁.setTop (mkF m 157 #[.val (.long (Int64.ofNat n)), .second, .val (.ref P), .val (.int ((((((((((((((1 : Int32) + bI (¬ Int64.ofNat n < own_p 1)) + bI (¬ Int64.ofNat n < own_p 2)) + bI (¬ Int64.ofNat n < own_p 3)) + bI (¬ Int64.ofNat n < own_p 4)) + bI (¬ Int64.ofNat n < own_p 5)) + bI (¬ Int64.ofNat n < own_p 6)) + bI (¬ Int64.ofNat n < own_p 7)) + bI (¬ Int64.ofNat n < own_p 8)) + bI (¬ Int64.ofNat n < own_p 9)) + bI (¬ Int64.ofNat n < own_p 10)) + bI (¬ Int64.ofNat n < own_p 11)) + bI (¬ Int64.ofNat n < own_p 12)) + bI (¬ Int64.ofNat n < own_p 13)))] [(.int (14 : Int32)), (.ref P), (.long (Int64.ofNat n))]))
    refine Gd.go (fun _ w_k => own_ldJ X0 hx hZ e0 AP (j := (14 : Int32)) (by decide) (by decide) (v := (.long (own_p 14))) rfl (g := (mkF m 157 #[.val (.long (Int64.ofNat n)), .second, .val (.ref P), .val (.int ((((((((((((((1 : Int32) + bI (¬ Int64.ofNat n < own_p 1)) + bI (¬ Int64.ofNat n < own_p 2)) + bI (¬ Int64.ofNat n < own_p 3)) + bI (¬ Int64.ofNat n < own_p 4)) + bI (¬ Int64.ofNat n < own_p 5)) + bI (¬ Int64.ofNat n < own_p 6)) + bI (¬ Int64.ofNat n < own_p 7)) + bI (¬ Int64.ofNat n < own_p 8)) + bI (¬ Int64.ofNat n < own_p 9)) + bI (¬ Int64.ofNat n < own_p 10)) + bI (¬ Int64.ofNat n < own_p 11)) + bI (¬ Int64.ofNat n < own_p 12)) + bI (¬ Int64.ofNat n < own_p 13)))] [(.int (14 : Int32)), (.ref P), (.long (Int64.ofNat n))])) rfl rfl (hb hby d1_157) _ w_k) ?_
    show Gd _ _ _ _ (s₁.setTop (mkF m 158 #[.val (.long (Int64.ofNat n)), .second, .val (.ref P), .val (.int ((((((((((((((1 : Int32) + bI (¬ Int64.ofNat n < own_p 1)) + bI (¬ Int64.ofNat n < own_p 2)) + bI (¬ Int64.ofNat n < own_p 3)) + bI (¬ Int64.ofNat n < own_p 4)) + bI (¬ Int64.ofNat n < own_p 5)) + bI (¬ Int64.ofNat n < own_p 6)) + bI (¬ Int64.ofNat n < own_p 7)) + bI (¬ Int64.ofNat n < own_p 8)) + bI (¬ Int64.ofNat n < own_p 9)) + bI (¬ Int64.ofNat n < own_p 10)) + bI (¬ Int64.ofNat n < own_p 11)) + bI (¬ Int64.ofNat n < own_p 12)) + bI (¬ Int64.ofNat n < own_p 13)))] [(.long (own_p 14)), (.long (Int64.ofNat n))]))
    refine Gd.go (fun _ w_k => XS.lcmp X0.here hx rfl (hb hby d1_158) rfl w_k) ?_
    show Gd _ _ _ _ (s₁.setTop (mkF m 159 #[.val (.long (Int64.ofNat n)), .second, .val (.ref P), .val (.int ((((((((((((((1 : Int32) + bI (¬ Int64.ofNat n < own_p 1)) + bI (¬ Int64.ofNat n < own_p 2)) + bI (¬ Int64.ofNat n < own_p 3)) + bI (¬ Int64.ofNat n < own_p 4)) + bI (¬ Int64.ofNat n < own_p 5)) + bI (¬ Int64.ofNat n < own_p 6)) + bI (¬ Int64.ofNat n < own_p 7)) + bI (¬ Int64.ofNat n < own_p 8)) + bI (¬ Int64.ofNat n < own_p 9)) + bI (¬ Int64.ofNat n < own_p 10)) + bI (¬ Int64.ofNat n < own_p 11)) + bI (¬ Int64.ofNat n < own_p 12)) + bI (¬ Int64.ofNat n < own_p 13)))] [(.int (lcmpW (Int64.ofNat n) (own_p 14)))]))
    by_cases hc54 : (Int64.ofNat n) < (own_p 14)
    · refine Gd.go (fun _ w_k => XS.ifYes X0.here hx rfl (pc0 := 159) (pc' := 165) rfl (hb hby d1_159) rfl ((if0 _ _).trans (tlt ((lw_lt _ _).mpr hc54)).1) (by decide) (by decide) w_k) ?_
      show Gd _ _ _ _ (s₁.setTop (mkF m 165 #[.val (.long (Int64.ofNat n)), .second, .val (.ref P), .val (.int ((((((((((((((1 : Int32) + bI (¬ Int64.ofNat n < own_p 1)) + bI (¬ Int64.ofNat n < own_p 2)) + bI (¬ Int64.ofNat n < own_p 3)) + bI (¬ Int64.ofNat n < own_p 4)) + bI (¬ Int64.ofNat n < own_p 5)) + bI (¬ Int64.ofNat n < own_p 6)) + bI (¬ Int64.ofNat n < own_p 7)) + bI (¬ Int64.ofNat n < own_p 8)) + bI (¬ Int64.ofNat n < own_p 9)) + bI (¬ Int64.ofNat n < own_p 10)) + bI (¬ Int64.ofNat n < own_p 11)) + bI (¬ Int64.ofNat n < own_p 12)) + bI (¬ Int64.ofNat n < own_p 13)))] []))
      have q55 : (((((((((((((((1 : Int32) + bI (¬ Int64.ofNat n < own_p 1)) + bI (¬ Int64.ofNat n < own_p 2)) + bI (¬ Int64.ofNat n < own_p 3)) + bI (¬ Int64.ofNat n < own_p 4)) + bI (¬ Int64.ofNat n < own_p 5)) + bI (¬ Int64.ofNat n < own_p 6)) + bI (¬ Int64.ofNat n < own_p 7)) + bI (¬ Int64.ofNat n < own_p 8)) + bI (¬ Int64.ofNat n < own_p 9)) + bI (¬ Int64.ofNat n < own_p 10)) + bI (¬ Int64.ofNat n < own_p 11)) + bI (¬ Int64.ofNat n < own_p 12)) + bI (¬ Int64.ofNat n < own_p 13)) + bI (¬ Int64.ofNat n < own_p 14)) = ((((((((((((((1 : Int32) + bI (¬ Int64.ofNat n < own_p 1)) + bI (¬ Int64.ofNat n < own_p 2)) + bI (¬ Int64.ofNat n < own_p 3)) + bI (¬ Int64.ofNat n < own_p 4)) + bI (¬ Int64.ofNat n < own_p 5)) + bI (¬ Int64.ofNat n < own_p 6)) + bI (¬ Int64.ofNat n < own_p 7)) + bI (¬ Int64.ofNat n < own_p 8)) + bI (¬ Int64.ofNat n < own_p 9)) + bI (¬ Int64.ofNat n < own_p 10)) + bI (¬ Int64.ofNat n < own_p 11)) + bI (¬ Int64.ofNat n < own_p 12)) + bI (¬ Int64.ofNat n < own_p 13)) := own_jz _ hc54
      rw [q55] at J53
      exact J53
    · refine Gd.go (fun _ w_k => XS.ifNo X0.here hx rfl (hb hby d1_159) rfl ((if0 _ _).trans (flt (fun q => hc54 ((lw_lt _ _).mp q))).1) w_k) ?_
      show Gd _ _ _ _ (s₁.setTop (mkF m 162 #[.val (.long (Int64.ofNat n)), .second, .val (.ref P), .val (.int ((((((((((((((1 : Int32) + bI (¬ Int64.ofNat n < own_p 1)) + bI (¬ Int64.ofNat n < own_p 2)) + bI (¬ Int64.ofNat n < own_p 3)) + bI (¬ Int64.ofNat n < own_p 4)) + bI (¬ Int64.ofNat n < own_p 5)) + bI (¬ Int64.ofNat n < own_p 6)) + bI (¬ Int64.ofNat n < own_p 7)) + bI (¬ Int64.ofNat n < own_p 8)) + bI (¬ Int64.ofNat n < own_p 9)) + bI (¬ Int64.ofNat n < own_p 10)) + bI (¬ Int64.ofNat n < own_p 11)) + bI (¬ Int64.ofNat n < own_p 12)) + bI (¬ Int64.ofNat n < own_p 13)))] []))
      refine Gd.go (fun _ w_k => XS.iinc X0.here hx rfl (hb hby d1_162) rfl (l' := #[.val (.long (Int64.ofNat n)), .second, .val (.ref P), .val (.int (((((((((((((((1 : Int32) + bI (¬ Int64.ofNat n < own_p 1)) + bI (¬ Int64.ofNat n < own_p 2)) + bI (¬ Int64.ofNat n < own_p 3)) + bI (¬ Int64.ofNat n < own_p 4)) + bI (¬ Int64.ofNat n < own_p 5)) + bI (¬ Int64.ofNat n < own_p 6)) + bI (¬ Int64.ofNat n < own_p 7)) + bI (¬ Int64.ofNat n < own_p 8)) + bI (¬ Int64.ofNat n < own_p 9)) + bI (¬ Int64.ofNat n < own_p 10)) + bI (¬ Int64.ofNat n < own_p 11)) + bI (¬ Int64.ofNat n < own_p 12)) + bI (¬ Int64.ofNat n < own_p 13)) + (1 : Int32)))]) rfl w_k) ?_
      show Gd _ _ _ _ (s₁.setTop (mkF m 165 #[.val (.long (Int64.ofNat n)), .second, .val (.ref P), .val (.int (((((((((((((((1 : Int32) + bI (¬ Int64.ofNat n < own_p 1)) + bI (¬ Int64.ofNat n < own_p 2)) + bI (¬ Int64.ofNat n < own_p 3)) + bI (¬ Int64.ofNat n < own_p 4)) + bI (¬ Int64.ofNat n < own_p 5)) + bI (¬ Int64.ofNat n < own_p 6)) + bI (¬ Int64.ofNat n < own_p 7)) + bI (¬ Int64.ofNat n < own_p 8)) + bI (¬ Int64.ofNat n < own_p 9)) + bI (¬ Int64.ofNat n < own_p 10)) + bI (¬ Int64.ofNat n < own_p 11)) + bI (¬ Int64.ofNat n < own_p 12)) + bI (¬ Int64.ofNat n < own_p 13)) + (1 : Int32)))] []))
      have q56 : (((((((((((((((1 : Int32) + bI (¬ Int64.ofNat n < own_p 1)) + bI (¬ Int64.ofNat n < own_p 2)) + bI (¬ Int64.ofNat n < own_p 3)) + bI (¬ Int64.ofNat n < own_p 4)) + bI (¬ Int64.ofNat n < own_p 5)) + bI (¬ Int64.ofNat n < own_p 6)) + bI (¬ Int64.ofNat n < own_p 7)) + bI (¬ Int64.ofNat n < own_p 8)) + bI (¬ Int64.ofNat n < own_p 9)) + bI (¬ Int64.ofNat n < own_p 10)) + bI (¬ Int64.ofNat n < own_p 11)) + bI (¬ Int64.ofNat n < own_p 12)) + bI (¬ Int64.ofNat n < own_p 13)) + bI (¬ Int64.ofNat n < own_p 14)) = (((((((((((((((1 : Int32) + bI (¬ Int64.ofNat n < own_p 1)) + bI (¬ Int64.ofNat n < own_p 2)) + bI (¬ Int64.ofNat n < own_p 3)) + bI (¬ Int64.ofNat n < own_p 4)) + bI (¬ Int64.ofNat n < own_p 5)) + bI (¬ Int64.ofNat n < own_p 6)) + bI (¬ Int64.ofNat n < own_p 7)) + bI (¬ Int64.ofNat n < own_p 8)) + bI (¬ Int64.ofNat n < own_p 9)) + bI (¬ Int64.ofNat n < own_p 10)) + bI (¬ Int64.ofNat n < own_p 11)) + bI (¬ Int64.ofNat n < own_p 12)) + bI (¬ Int64.ofNat n < own_p 13)) + (1 : Int32)) := own_jo _ hc54
      rw [q56] at J53
      exact J53
  show Gd _ _ _ _ (s₁.setTop (mkF m 165 #[.val (.long (Int64.ofNat n)), .second, .val (.ref P), .val (.int (((((((((((((((1 : Int32) + bI (¬ Int64.ofNat n < own_p 1)) + bI (¬ Int64.ofNat n < own_p 2)) + bI (¬ Int64.ofNat n < own_p 3)) + bI (¬ Int64.ofNat n < own_p 4)) + bI (¬ Int64.ofNat n < own_p 5)) + bI (¬ Int64.ofNat n < own_p 6)) + bI (¬ Int64.ofNat n < own_p 7)) + bI (¬ Int64.ofNat n < own_p 8)) + bI (¬ Int64.ofNat n < own_p 9)) + bI (¬ Int64.ofNat n < own_p 10)) + bI (¬ Int64.ofNat n < own_p 11)) + bI (¬ Int64.ofNat n < own_p 12)) + bI (¬ Int64.ofNat n < own_p 13)) + bI (¬ Int64.ofNat n < own_p 14)))] []))
  refine Gd.via (S' := s₁.setTop (mkF m 177 #[.val (.long (Int64.ofNat n)), .second, .val (.ref P), .val (.int ((((((((((((((((1 : Int32) + bI (¬ Int64.ofNat n < own_p 1)) + bI (¬ Int64.ofNat n < own_p 2)) + bI (¬ Int64.ofNat n < own_p 3)) + bI (¬ Int64.ofNat n < own_p 4)) + bI (¬ Int64.ofNat n < own_p 5)) + bI (¬ Int64.ofNat n < own_p 6)) + bI (¬ Int64.ofNat n < own_p 7)) + bI (¬ Int64.ofNat n < own_p 8)) + bI (¬ Int64.ofNat n < own_p 9)) + bI (¬ Int64.ofNat n < own_p 10)) + bI (¬ Int64.ofNat n < own_p 11)) + bI (¬ Int64.ofNat n < own_p 12)) + bI (¬ Int64.ofNat n < own_p 13)) + bI (¬ Int64.ofNat n < own_p 14)) + bI (¬ Int64.ofNat n < own_p 15)))] [])) (fun J57 => ?_) ?_
  · refine Gd.go (fun _ w_k => XS.lloadN X0.here hx rfl (hb hby d1_165) rfl w_k) ?_
    show Gd _ _ _ _ (s₁.setTop (mkF m 166 #[.val (.long (Int64.ofNat n)), .second, .val (.ref P), .val (.int (((((((((((((((1 : Int32) + bI (¬ Int64.ofNat n < own_p 1)) + bI (¬ Int64.ofNat n < own_p 2)) + bI (¬ Int64.ofNat n < own_p 3)) + bI (¬ Int64.ofNat n < own_p 4)) + bI (¬ Int64.ofNat n < own_p 5)) + bI (¬ Int64.ofNat n < own_p 6)) + bI (¬ Int64.ofNat n < own_p 7)) + bI (¬ Int64.ofNat n < own_p 8)) + bI (¬ Int64.ofNat n < own_p 9)) + bI (¬ Int64.ofNat n < own_p 10)) + bI (¬ Int64.ofNat n < own_p 11)) + bI (¬ Int64.ofNat n < own_p 12)) + bI (¬ Int64.ofNat n < own_p 13)) + bI (¬ Int64.ofNat n < own_p 14)))] [(.long (Int64.ofNat n))]))
    refine Gd.go (fun _ w_k => XS.aloadN X0.here hx rfl (hb hby d1_166) rfl rfl w_k) ?_
    show Gd _ _ _ _ (s₁.setTop (mkF m 167 #[.val (.long (Int64.ofNat n)), .second, .val (.ref P), .val (.int (((((((((((((((1 : Int32) + bI (¬ Int64.ofNat n < own_p 1)) + bI (¬ Int64.ofNat n < own_p 2)) + bI (¬ Int64.ofNat n < own_p 3)) + bI (¬ Int64.ofNat n < own_p 4)) + bI (¬ Int64.ofNat n < own_p 5)) + bI (¬ Int64.ofNat n < own_p 6)) + bI (¬ Int64.ofNat n < own_p 7)) + bI (¬ Int64.ofNat n < own_p 8)) + bI (¬ Int64.ofNat n < own_p 9)) + bI (¬ Int64.ofNat n < own_p 10)) + bI (¬ Int64.ofNat n < own_p 11)) + bI (¬ Int64.ofNat n < own_p 12)) + bI (¬ Int64.ofNat n < own_p 13)) + bI (¬ Int64.ofNat n < own_p 14)))] [(.ref P), (.long (Int64.ofNat n))]))
    refine Gd.go (fun _ w_k => XS.bipush X0.here hx rfl (hb hby d1_167) w_k) ?_
    show Gd _ _ _ _ (s₁.setTop (mkF m 169 #[.val (.long (Int64.ofNat n)), .second, .val (.ref P), .val (.int (((((((((((((((1 : Int32) + bI (¬ Int64.ofNat n < own_p 1)) + bI (¬ Int64.ofNat n < own_p 2)) + bI (¬ Int64.ofNat n < own_p 3)) + bI (¬ Int64.ofNat n < own_p 4)) + bI (¬ Int64.ofNat n < own_p 5)) + bI (¬ Int64.ofNat n < own_p 6)) + bI (¬ Int64.ofNat n < own_p 7)) + bI (¬ Int64.ofNat n < own_p 8)) + bI (¬ Int64.ofNat n < own_p 9)) + bI (¬ Int64.ofNat n < own_p 10)) + bI (¬ Int64.ofNat n < own_p 11)) + bI (¬ Int64.ofNat n < own_p 12)) + bI (¬ Int64.ofNat n < own_p 13)) + bI (¬ Int64.ofNat n < own_p 14)))] [(.int (15 : Int32)), (.ref P), (.long (Int64.ofNat n))]))
    refine Gd.go (fun _ w_k => own_ldJ X0 hx hZ e0 AP (j := (15 : Int32)) (by decide) (by decide) (v := (.long (own_p 15))) rfl (g := (mkF m 169 #[.val (.long (Int64.ofNat n)), .second, .val (.ref P), .val (.int (((((((((((((((1 : Int32) + bI (¬ Int64.ofNat n < own_p 1)) + bI (¬ Int64.ofNat n < own_p 2)) + bI (¬ Int64.ofNat n < own_p 3)) + bI (¬ Int64.ofNat n < own_p 4)) + bI (¬ Int64.ofNat n < own_p 5)) + bI (¬ Int64.ofNat n < own_p 6)) + bI (¬ Int64.ofNat n < own_p 7)) + bI (¬ Int64.ofNat n < own_p 8)) + bI (¬ Int64.ofNat n < own_p 9)) + bI (¬ Int64.ofNat n < own_p 10)) + bI (¬ Int64.ofNat n < own_p 11)) + bI (¬ Int64.ofNat n < own_p 12)) + bI (¬ Int64.ofNat n < own_p 13)) + bI (¬ Int64.ofNat n < own_p 14)))] [(.int (15 : Int32)), (.ref P), (.long (Int64.ofNat n))])) rfl rfl (hb hby d1_169) _ w_k) ?_
    show Gd _ _ _ _ (s₁.setTop (mkF m 170 #[.val (.long (Int64.ofNat n)), .second, .val (.ref P), .val (.int (((((((((((((((1 : Int32) + bI (¬ Int64.ofNat n < own_p 1)) + bI (¬ Int64.ofNat n < own_p 2)) + bI (¬ Int64.ofNat n < own_p 3)) + bI (¬ Int64.ofNat n < own_p 4)) + bI (¬ Int64.ofNat n < own_p 5)) + bI (¬ Int64.ofNat n < own_p 6)) + bI (¬ Int64.ofNat n < own_p 7)) + bI (¬ Int64.ofNat n < own_p 8)) + bI (¬ Int64.ofNat n < own_p 9)) + bI (¬ Int64.ofNat n < own_p 10)) + bI (¬ Int64.ofNat n < own_p 11)) + bI (¬ Int64.ofNat n < own_p 12)) + bI (¬ Int64.ofNat n < own_p 13)) + bI (¬ Int64.ofNat n < own_p 14)))] [(.long (own_p 15)), (.long (Int64.ofNat n))]))
    refine Gd.go (fun _ w_k => XS.lcmp X0.here hx rfl (hb hby d1_170) rfl w_k) ?_
    show Gd _ _ _ _ (s₁.setTop (mkF m 171 #[.val (.long (Int64.ofNat n)), .second, .val (.ref P), .val (.int (((((((((((((((1 : Int32) + bI (¬ Int64.ofNat n < own_p 1)) + bI (¬ Int64.ofNat n < own_p 2)) + bI (¬ Int64.ofNat n < own_p 3)) + bI (¬ Int64.ofNat n < own_p 4)) + bI (¬ Int64.ofNat n < own_p 5)) + bI (¬ Int64.ofNat n < own_p 6)) + bI (¬ Int64.ofNat n < own_p 7)) + bI (¬ Int64.ofNat n < own_p 8)) + bI (¬ Int64.ofNat n < own_p 9)) + bI (¬ Int64.ofNat n < own_p 10)) + bI (¬ Int64.ofNat n < own_p 11)) + bI (¬ Int64.ofNat n < own_p 12)) + bI (¬ Int64.ofNat n < own_p 13)) + bI (¬ Int64.ofNat n < own_p 14)))] [(.int (lcmpW (Int64.ofNat n) (own_p 15)))]))
    by_cases hc58 : (Int64.ofNat n) < (own_p 15)
    · refine Gd.go (fun _ w_k => XS.ifYes X0.here hx rfl (pc0 := 171) (pc' := 177) rfl (hb hby d1_171) rfl ((if0 _ _).trans (tlt ((lw_lt _ _).mpr hc58)).1) (by decide) (by decide) w_k) ?_
      show Gd _ _ _ _ (s₁.setTop (mkF m 177 #[.val (.long (Int64.ofNat n)), .second, .val (.ref P), .val (.int (((((((((((((((1 : Int32) + bI (¬ Int64.ofNat n < own_p 1)) + bI (¬ Int64.ofNat n < own_p 2)) + bI (¬ Int64.ofNat n < own_p 3)) + bI (¬ Int64.ofNat n < own_p 4)) + bI (¬ Int64.ofNat n < own_p 5)) + bI (¬ Int64.ofNat n < own_p 6)) + bI (¬ Int64.ofNat n < own_p 7)) + bI (¬ Int64.ofNat n < own_p 8)) + bI (¬ Int64.ofNat n < own_p 9)) + bI (¬ Int64.ofNat n < own_p 10)) + bI (¬ Int64.ofNat n < own_p 11)) + bI (¬ Int64.ofNat n < own_p 12)) + bI (¬ Int64.ofNat n < own_p 13)) + bI (¬ Int64.ofNat n < own_p 14)))] []))
      have q59 : ((((((((((((((((1 : Int32) + bI (¬ Int64.ofNat n < own_p 1)) + bI (¬ Int64.ofNat n < own_p 2)) + bI (¬ Int64.ofNat n < own_p 3)) + bI (¬ Int64.ofNat n < own_p 4)) + bI (¬ Int64.ofNat n < own_p 5)) + bI (¬ Int64.ofNat n < own_p 6)) + bI (¬ Int64.ofNat n < own_p 7)) + bI (¬ Int64.ofNat n < own_p 8)) + bI (¬ Int64.ofNat n < own_p 9)) + bI (¬ Int64.ofNat n < own_p 10)) + bI (¬ Int64.ofNat n < own_p 11)) + bI (¬ Int64.ofNat n < own_p 12)) + bI (¬ Int64.ofNat n < own_p 13)) + bI (¬ Int64.ofNat n < own_p 14)) + bI (¬ Int64.ofNat n < own_p 15)) = (((((((((((((((1 : Int32) + bI (¬ Int64.ofNat n < own_p 1)) + bI (¬ Int64.ofNat n < own_p 2)) + bI (¬ Int64.ofNat n < own_p 3)) + bI (¬ Int64.ofNat n < own_p 4)) + bI (¬ Int64.ofNat n < own_p 5)) + bI (¬ Int64.ofNat n < own_p 6)) + bI (¬ Int64.ofNat n < own_p 7)) + bI (¬ Int64.ofNat n < own_p 8)) + bI (¬ Int64.ofNat n < own_p 9)) + bI (¬ Int64.ofNat n < own_p 10)) + bI (¬ Int64.ofNat n < own_p 11)) + bI (¬ Int64.ofNat n < own_p 12)) + bI (¬ Int64.ofNat n < own_p 13)) + bI (¬ Int64.ofNat n < own_p 14)) := own_jz _ hc58
      rw [q59] at J57
      exact J57
    · refine Gd.go (fun _ w_k => XS.ifNo X0.here hx rfl (hb hby d1_171) rfl ((if0 _ _).trans (flt (fun q => hc58 ((lw_lt _ _).mp q))).1) w_k) ?_
      show Gd _ _ _ _ (s₁.setTop (mkF m 174 #[.val (.long (Int64.ofNat n)), .second, .val (.ref P), .val (.int (((((((((((((((1 : Int32) + bI (¬ Int64.ofNat n < own_p 1)) + bI (¬ Int64.ofNat n < own_p 2)) + bI (¬ Int64.ofNat n < own_p 3)) + bI (¬ Int64.ofNat n < own_p 4)) + bI (¬ Int64.ofNat n < own_p 5)) + bI (¬ Int64.ofNat n < own_p 6)) + bI (¬ Int64.ofNat n < own_p 7)) + bI (¬ Int64.ofNat n < own_p 8)) + bI (¬ Int64.ofNat n < own_p 9)) + bI (¬ Int64.ofNat n < own_p 10)) + bI (¬ Int64.ofNat n < own_p 11)) + bI (¬ Int64.ofNat n < own_p 12)) + bI (¬ Int64.ofNat n < own_p 13)) + bI (¬ Int64.ofNat n < own_p 14)))] []))
      refine Gd.go (fun _ w_k => XS.iinc X0.here hx rfl (hb hby d1_174) rfl (l' := #[.val (.long (Int64.ofNat n)), .second, .val (.ref P), .val (.int ((((((((((((((((1 : Int32) + bI (¬ Int64.ofNat n < own_p 1)) + bI (¬ Int64.ofNat n < own_p 2)) + bI (¬ Int64.ofNat n < own_p 3)) + bI (¬ Int64.ofNat n < own_p 4)) + bI (¬ Int64.ofNat n < own_p 5)) + bI (¬ Int64.ofNat n < own_p 6)) + bI (¬ Int64.ofNat n < own_p 7)) + bI (¬ Int64.ofNat n < own_p 8)) + bI (¬ Int64.ofNat n < own_p 9)) + bI (¬ Int64.ofNat n < own_p 10)) + bI (¬ Int64.ofNat n < own_p 11)) + bI (¬ Int64.ofNat n < own_p 12)) + bI (¬ Int64.ofNat n < own_p 13)) + bI (¬ Int64.ofNat n < own_p 14)) + (1 : Int32)))]) rfl w_k) ?_
      show Gd _ _ _ _ (s₁.setTop (mkF m 177 #[.val (.long (Int64.ofNat n)), .second, .val (.ref P), .val (.int ((((((((((((((((1 : Int32) + bI (¬ Int64.ofNat n < own_p 1)) + bI (¬ Int64.ofNat n < own_p 2)) + bI (¬ Int64.ofNat n < own_p 3)) + bI (¬ Int64.ofNat n < own_p 4)) + bI (¬ Int64.ofNat n < own_p 5)) + bI (¬ Int64.ofNat n < own_p 6)) + bI (¬ Int64.ofNat n < own_p 7)) + bI (¬ Int64.ofNat n < own_p 8)) + bI (¬ Int64.ofNat n < own_p 9)) + bI (¬ Int64.ofNat n < own_p 10)) + bI (¬ Int64.ofNat n < own_p 11)) + bI (¬ Int64.ofNat n < own_p 12)) + bI (¬ Int64.ofNat n < own_p 13)) + bI (¬ Int64.ofNat n < own_p 14)) + (1 : Int32)))] []))
      have q60 : ((((((((((((((((1 : Int32) + bI (¬ Int64.ofNat n < own_p 1)) + bI (¬ Int64.ofNat n < own_p 2)) + bI (¬ Int64.ofNat n < own_p 3)) + bI (¬ Int64.ofNat n < own_p 4)) + bI (¬ Int64.ofNat n < own_p 5)) + bI (¬ Int64.ofNat n < own_p 6)) + bI (¬ Int64.ofNat n < own_p 7)) + bI (¬ Int64.ofNat n < own_p 8)) + bI (¬ Int64.ofNat n < own_p 9)) + bI (¬ Int64.ofNat n < own_p 10)) + bI (¬ Int64.ofNat n < own_p 11)) + bI (¬ Int64.ofNat n < own_p 12)) + bI (¬ Int64.ofNat n < own_p 13)) + bI (¬ Int64.ofNat n < own_p 14)) + bI (¬ Int64.ofNat n < own_p 15)) = ((((((((((((((((1 : Int32) + bI (¬ Int64.ofNat n < own_p 1)) + bI (¬ Int64.ofNat n < own_p 2)) + bI (¬ Int64.ofNat n < own_p 3)) + bI (¬ Int64.ofNat n < own_p 4)) + bI (¬ Int64.ofNat n < own_p 5)) + bI (¬ Int64.ofNat n < own_p 6)) + bI (¬ Int64.ofNat n < own_p 7)) + bI (¬ Int64.ofNat n < own_p 8)) + bI (¬ Int64.ofNat n < own_p 9)) + bI (¬ Int64.ofNat n < own_p 10)) + bI (¬ Int64.ofNat n < own_p 11)) + bI (¬ Int64.ofNat n < own_p 12)) + bI (¬ Int64.ofNat n < own_p 13)) + bI (¬ Int64.ofNat n < own_p 14)) + (1 : Int32)) := own_jo _ hc58
      rw [q60] at J57
      exact J57
  show Gd _ _ _ _ (s₁.setTop (mkF m 177 #[.val (.long (Int64.ofNat n)), .second, .val (.ref P), .val (.int ((((((((((((((((1 : Int32) + bI (¬ Int64.ofNat n < own_p 1)) + bI (¬ Int64.ofNat n < own_p 2)) + bI (¬ Int64.ofNat n < own_p 3)) + bI (¬ Int64.ofNat n < own_p 4)) + bI (¬ Int64.ofNat n < own_p 5)) + bI (¬ Int64.ofNat n < own_p 6)) + bI (¬ Int64.ofNat n < own_p 7)) + bI (¬ Int64.ofNat n < own_p 8)) + bI (¬ Int64.ofNat n < own_p 9)) + bI (¬ Int64.ofNat n < own_p 10)) + bI (¬ Int64.ofNat n < own_p 11)) + bI (¬ Int64.ofNat n < own_p 12)) + bI (¬ Int64.ofNat n < own_p 13)) + bI (¬ Int64.ofNat n < own_p 14)) + bI (¬ Int64.ofNat n < own_p 15)))] []))
  refine Gd.via (S' := s₁.setTop (mkF m 189 #[.val (.long (Int64.ofNat n)), .second, .val (.ref P), .val (.int (((((((((((((((((1 : Int32) + bI (¬ Int64.ofNat n < own_p 1)) + bI (¬ Int64.ofNat n < own_p 2)) + bI (¬ Int64.ofNat n < own_p 3)) + bI (¬ Int64.ofNat n < own_p 4)) + bI (¬ Int64.ofNat n < own_p 5)) + bI (¬ Int64.ofNat n < own_p 6)) + bI (¬ Int64.ofNat n < own_p 7)) + bI (¬ Int64.ofNat n < own_p 8)) + bI (¬ Int64.ofNat n < own_p 9)) + bI (¬ Int64.ofNat n < own_p 10)) + bI (¬ Int64.ofNat n < own_p 11)) + bI (¬ Int64.ofNat n < own_p 12)) + bI (¬ Int64.ofNat n < own_p 13)) + bI (¬ Int64.ofNat n < own_p 14)) + bI (¬ Int64.ofNat n < own_p 15)) + bI (¬ Int64.ofNat n < own_p 16)))] [])) (fun J61 => ?_) ?_
  · refine Gd.go (fun _ w_k => XS.lloadN X0.here hx rfl (hb hby d1_177) rfl w_k) ?_
    show Gd _ _ _ _ (s₁.setTop (mkF m 178 #[.val (.long (Int64.ofNat n)), .second, .val (.ref P), .val (.int ((((((((((((((((1 : Int32) + bI (¬ Int64.ofNat n < own_p 1)) + bI (¬ Int64.ofNat n < own_p 2)) + bI (¬ Int64.ofNat n < own_p 3)) + bI (¬ Int64.ofNat n < own_p 4)) + bI (¬ Int64.ofNat n < own_p 5)) + bI (¬ Int64.ofNat n < own_p 6)) + bI (¬ Int64.ofNat n < own_p 7)) + bI (¬ Int64.ofNat n < own_p 8)) + bI (¬ Int64.ofNat n < own_p 9)) + bI (¬ Int64.ofNat n < own_p 10)) + bI (¬ Int64.ofNat n < own_p 11)) + bI (¬ Int64.ofNat n < own_p 12)) + bI (¬ Int64.ofNat n < own_p 13)) + bI (¬ Int64.ofNat n < own_p 14)) + bI (¬ Int64.ofNat n < own_p 15)))] [(.long (Int64.ofNat n))]))
    refine Gd.go (fun _ w_k => XS.aloadN X0.here hx rfl (hb hby d1_178) rfl rfl w_k) ?_
    show Gd _ _ _ _ (s₁.setTop (mkF m 179 #[.val (.long (Int64.ofNat n)), .second, .val (.ref P), .val (.int ((((((((((((((((1 : Int32) + bI (¬ Int64.ofNat n < own_p 1)) + bI (¬ Int64.ofNat n < own_p 2)) + bI (¬ Int64.ofNat n < own_p 3)) + bI (¬ Int64.ofNat n < own_p 4)) + bI (¬ Int64.ofNat n < own_p 5)) + bI (¬ Int64.ofNat n < own_p 6)) + bI (¬ Int64.ofNat n < own_p 7)) + bI (¬ Int64.ofNat n < own_p 8)) + bI (¬ Int64.ofNat n < own_p 9)) + bI (¬ Int64.ofNat n < own_p 10)) + bI (¬ Int64.ofNat n < own_p 11)) + bI (¬ Int64.ofNat n < own_p 12)) + bI (¬ Int64.ofNat n < own_p 13)) + bI (¬ Int64.ofNat n < own_p 14)) + bI (¬ Int64.ofNat n < own_p 15)))] [(.ref P), (.long (Int64.ofNat n))]))
    refine Gd.go (fun _ w_k => XS.bipush X0.here hx rfl (hb hby d1_179) w_k) ?_
    show Gd _ _ _ _ (s₁.setTop (mkF m 181 #[.val (.long (Int64.ofNat n)), .second, .val (.ref P), .val (.int ((((((((((((((((1 : Int32) + bI (¬ Int64.ofNat n < own_p 1)) + bI (¬ Int64.ofNat n < own_p 2)) + bI (¬ Int64.ofNat n < own_p 3)) + bI (¬ Int64.ofNat n < own_p 4)) + bI (¬ Int64.ofNat n < own_p 5)) + bI (¬ Int64.ofNat n < own_p 6)) + bI (¬ Int64.ofNat n < own_p 7)) + bI (¬ Int64.ofNat n < own_p 8)) + bI (¬ Int64.ofNat n < own_p 9)) + bI (¬ Int64.ofNat n < own_p 10)) + bI (¬ Int64.ofNat n < own_p 11)) + bI (¬ Int64.ofNat n < own_p 12)) + bI (¬ Int64.ofNat n < own_p 13)) + bI (¬ Int64.ofNat n < own_p 14)) + bI (¬ Int64.ofNat n < own_p 15)))] [(.int (16 : Int32)), (.ref P), (.long (Int64.ofNat n))]))
    refine Gd.go (fun _ w_k => own_ldJ X0 hx hZ e0 AP (j := (16 : Int32)) (by decide) (by decide) (v := (.long (own_p 16))) rfl (g := (mkF m 181 #[.val (.long (Int64.ofNat n)), .second, .val (.ref P), .val (.int ((((((((((((((((1 : Int32) + bI (¬ Int64.ofNat n < own_p 1)) + bI (¬ Int64.ofNat n < own_p 2)) + bI (¬ Int64.ofNat n < own_p 3)) + bI (¬ Int64.ofNat n < own_p 4)) + bI (¬ Int64.ofNat n < own_p 5)) + bI (¬ Int64.ofNat n < own_p 6)) + bI (¬ Int64.ofNat n < own_p 7)) + bI (¬ Int64.ofNat n < own_p 8)) + bI (¬ Int64.ofNat n < own_p 9)) + bI (¬ Int64.ofNat n < own_p 10)) + bI (¬ Int64.ofNat n < own_p 11)) + bI (¬ Int64.ofNat n < own_p 12)) + bI (¬ Int64.ofNat n < own_p 13)) + bI (¬ Int64.ofNat n < own_p 14)) + bI (¬ Int64.ofNat n < own_p 15)))] [(.int (16 : Int32)), (.ref P), (.long (Int64.ofNat n))])) rfl rfl (hb hby d1_181) _ w_k) ?_
    show Gd _ _ _ _ (s₁.setTop (mkF m 182 #[.val (.long (Int64.ofNat n)), .second, .val (.ref P), .val (.int ((((((((((((((((1 : Int32) + bI (¬ Int64.ofNat n < own_p 1)) + bI (¬ Int64.ofNat n < own_p 2)) + bI (¬ Int64.ofNat n < own_p 3)) + bI (¬ Int64.ofNat n < own_p 4)) + bI (¬ Int64.ofNat n < own_p 5)) + bI (¬ Int64.ofNat n < own_p 6)) + bI (¬ Int64.ofNat n < own_p 7)) + bI (¬ Int64.ofNat n < own_p 8)) + bI (¬ Int64.ofNat n < own_p 9)) + bI (¬ Int64.ofNat n < own_p 10)) + bI (¬ Int64.ofNat n < own_p 11)) + bI (¬ Int64.ofNat n < own_p 12)) + bI (¬ Int64.ofNat n < own_p 13)) + bI (¬ Int64.ofNat n < own_p 14)) + bI (¬ Int64.ofNat n < own_p 15)))] [(.long (own_p 16)), (.long (Int64.ofNat n))]))
    refine Gd.go (fun _ w_k => XS.lcmp X0.here hx rfl (hb hby d1_182) rfl w_k) ?_
    show Gd _ _ _ _ (s₁.setTop (mkF m 183 #[.val (.long (Int64.ofNat n)), .second, .val (.ref P), .val (.int ((((((((((((((((1 : Int32) + bI (¬ Int64.ofNat n < own_p 1)) + bI (¬ Int64.ofNat n < own_p 2)) + bI (¬ Int64.ofNat n < own_p 3)) + bI (¬ Int64.ofNat n < own_p 4)) + bI (¬ Int64.ofNat n < own_p 5)) + bI (¬ Int64.ofNat n < own_p 6)) + bI (¬ Int64.ofNat n < own_p 7)) + bI (¬ Int64.ofNat n < own_p 8)) + bI (¬ Int64.ofNat n < own_p 9)) + bI (¬ Int64.ofNat n < own_p 10)) + bI (¬ Int64.ofNat n < own_p 11)) + bI (¬ Int64.ofNat n < own_p 12)) + bI (¬ Int64.ofNat n < own_p 13)) + bI (¬ Int64.ofNat n < own_p 14)) + bI (¬ Int64.ofNat n < own_p 15)))] [(.int (lcmpW (Int64.ofNat n) (own_p 16)))]))
    by_cases hc62 : (Int64.ofNat n) < (own_p 16)
    · refine Gd.go (fun _ w_k => XS.ifYes X0.here hx rfl (pc0 := 183) (pc' := 189) rfl (hb hby d1_183) rfl ((if0 _ _).trans (tlt ((lw_lt _ _).mpr hc62)).1) (by decide) (by decide) w_k) ?_
      show Gd _ _ _ _ (s₁.setTop (mkF m 189 #[.val (.long (Int64.ofNat n)), .second, .val (.ref P), .val (.int ((((((((((((((((1 : Int32) + bI (¬ Int64.ofNat n < own_p 1)) + bI (¬ Int64.ofNat n < own_p 2)) + bI (¬ Int64.ofNat n < own_p 3)) + bI (¬ Int64.ofNat n < own_p 4)) + bI (¬ Int64.ofNat n < own_p 5)) + bI (¬ Int64.ofNat n < own_p 6)) + bI (¬ Int64.ofNat n < own_p 7)) + bI (¬ Int64.ofNat n < own_p 8)) + bI (¬ Int64.ofNat n < own_p 9)) + bI (¬ Int64.ofNat n < own_p 10)) + bI (¬ Int64.ofNat n < own_p 11)) + bI (¬ Int64.ofNat n < own_p 12)) + bI (¬ Int64.ofNat n < own_p 13)) + bI (¬ Int64.ofNat n < own_p 14)) + bI (¬ Int64.ofNat n < own_p 15)))] []))
      have q63 : (((((((((((((((((1 : Int32) + bI (¬ Int64.ofNat n < own_p 1)) + bI (¬ Int64.ofNat n < own_p 2)) + bI (¬ Int64.ofNat n < own_p 3)) + bI (¬ Int64.ofNat n < own_p 4)) + bI (¬ Int64.ofNat n < own_p 5)) + bI (¬ Int64.ofNat n < own_p 6)) + bI (¬ Int64.ofNat n < own_p 7)) + bI (¬ Int64.ofNat n < own_p 8)) + bI (¬ Int64.ofNat n < own_p 9)) + bI (¬ Int64.ofNat n < own_p 10)) + bI (¬ Int64.ofNat n < own_p 11)) + bI (¬ Int64.ofNat n < own_p 12)) + bI (¬ Int64.ofNat n < own_p 13)) + bI (¬ Int64.ofNat n < own_p 14)) + bI (¬ Int64.ofNat n < own_p 15)) + bI (¬ Int64.ofNat n < own_p 16)) = ((((((((((((((((1 : Int32) + bI (¬ Int64.ofNat n < own_p 1)) + bI (¬ Int64.ofNat n < own_p 2)) + bI (¬ Int64.ofNat n < own_p 3)) + bI (¬ Int64.ofNat n < own_p 4)) + bI (¬ Int64.ofNat n < own_p 5)) + bI (¬ Int64.ofNat n < own_p 6)) + bI (¬ Int64.ofNat n < own_p 7)) + bI (¬ Int64.ofNat n < own_p 8)) + bI (¬ Int64.ofNat n < own_p 9)) + bI (¬ Int64.ofNat n < own_p 10)) + bI (¬ Int64.ofNat n < own_p 11)) + bI (¬ Int64.ofNat n < own_p 12)) + bI (¬ Int64.ofNat n < own_p 13)) + bI (¬ Int64.ofNat n < own_p 14)) + bI (¬ Int64.ofNat n < own_p 15)) := own_jz _ hc62
      rw [q63] at J61
      exact J61
    · refine Gd.go (fun _ w_k => XS.ifNo X0.here hx rfl (hb hby d1_183) rfl ((if0 _ _).trans (flt (fun q => hc62 ((lw_lt _ _).mp q))).1) w_k) ?_
      show Gd _ _ _ _ (s₁.setTop (mkF m 186 #[.val (.long (Int64.ofNat n)), .second, .val (.ref P), .val (.int ((((((((((((((((1 : Int32) + bI (¬ Int64.ofNat n < own_p 1)) + bI (¬ Int64.ofNat n < own_p 2)) + bI (¬ Int64.ofNat n < own_p 3)) + bI (¬ Int64.ofNat n < own_p 4)) + bI (¬ Int64.ofNat n < own_p 5)) + bI (¬ Int64.ofNat n < own_p 6)) + bI (¬ Int64.ofNat n < own_p 7)) + bI (¬ Int64.ofNat n < own_p 8)) + bI (¬ Int64.ofNat n < own_p 9)) + bI (¬ Int64.ofNat n < own_p 10)) + bI (¬ Int64.ofNat n < own_p 11)) + bI (¬ Int64.ofNat n < own_p 12)) + bI (¬ Int64.ofNat n < own_p 13)) + bI (¬ Int64.ofNat n < own_p 14)) + bI (¬ Int64.ofNat n < own_p 15)))] []))
      refine Gd.go (fun _ w_k => XS.iinc X0.here hx rfl (hb hby d1_186) rfl (l' := #[.val (.long (Int64.ofNat n)), .second, .val (.ref P), .val (.int (((((((((((((((((1 : Int32) + bI (¬ Int64.ofNat n < own_p 1)) + bI (¬ Int64.ofNat n < own_p 2)) + bI (¬ Int64.ofNat n < own_p 3)) + bI (¬ Int64.ofNat n < own_p 4)) + bI (¬ Int64.ofNat n < own_p 5)) + bI (¬ Int64.ofNat n < own_p 6)) + bI (¬ Int64.ofNat n < own_p 7)) + bI (¬ Int64.ofNat n < own_p 8)) + bI (¬ Int64.ofNat n < own_p 9)) + bI (¬ Int64.ofNat n < own_p 10)) + bI (¬ Int64.ofNat n < own_p 11)) + bI (¬ Int64.ofNat n < own_p 12)) + bI (¬ Int64.ofNat n < own_p 13)) + bI (¬ Int64.ofNat n < own_p 14)) + bI (¬ Int64.ofNat n < own_p 15)) + (1 : Int32)))]) rfl w_k) ?_
      show Gd _ _ _ _ (s₁.setTop (mkF m 189 #[.val (.long (Int64.ofNat n)), .second, .val (.ref P), .val (.int (((((((((((((((((1 : Int32) + bI (¬ Int64.ofNat n < own_p 1)) + bI (¬ Int64.ofNat n < own_p 2)) + bI (¬ Int64.ofNat n < own_p 3)) + bI (¬ Int64.ofNat n < own_p 4)) + bI (¬ Int64.ofNat n < own_p 5)) + bI (¬ Int64.ofNat n < own_p 6)) + bI (¬ Int64.ofNat n < own_p 7)) + bI (¬ Int64.ofNat n < own_p 8)) + bI (¬ Int64.ofNat n < own_p 9)) + bI (¬ Int64.ofNat n < own_p 10)) + bI (¬ Int64.ofNat n < own_p 11)) + bI (¬ Int64.ofNat n < own_p 12)) + bI (¬ Int64.ofNat n < own_p 13)) + bI (¬ Int64.ofNat n < own_p 14)) + bI (¬ Int64.ofNat n < own_p 15)) + (1 : Int32)))] []))
      have q64 : (((((((((((((((((1 : Int32) + bI (¬ Int64.ofNat n < own_p 1)) + bI (¬ Int64.ofNat n < own_p 2)) + bI (¬ Int64.ofNat n < own_p 3)) + bI (¬ Int64.ofNat n < own_p 4)) + bI (¬ Int64.ofNat n < own_p 5)) + bI (¬ Int64.ofNat n < own_p 6)) + bI (¬ Int64.ofNat n < own_p 7)) + bI (¬ Int64.ofNat n < own_p 8)) + bI (¬ Int64.ofNat n < own_p 9)) + bI (¬ Int64.ofNat n < own_p 10)) + bI (¬ Int64.ofNat n < own_p 11)) + bI (¬ Int64.ofNat n < own_p 12)) + bI (¬ Int64.ofNat n < own_p 13)) + bI (¬ Int64.ofNat n < own_p 14)) + bI (¬ Int64.ofNat n < own_p 15)) + bI (¬ Int64.ofNat n < own_p 16)) = (((((((((((((((((1 : Int32) + bI (¬ Int64.ofNat n < own_p 1)) + bI (¬ Int64.ofNat n < own_p 2)) + bI (¬ Int64.ofNat n < own_p 3)) + bI (¬ Int64.ofNat n < own_p 4)) + bI (¬ Int64.ofNat n < own_p 5)) + bI (¬ Int64.ofNat n < own_p 6)) + bI (¬ Int64.ofNat n < own_p 7)) + bI (¬ Int64.ofNat n < own_p 8)) + bI (¬ Int64.ofNat n < own_p 9)) + bI (¬ Int64.ofNat n < own_p 10)) + bI (¬ Int64.ofNat n < own_p 11)) + bI (¬ Int64.ofNat n < own_p 12)) + bI (¬ Int64.ofNat n < own_p 13)) + bI (¬ Int64.ofNat n < own_p 14)) + bI (¬ Int64.ofNat n < own_p 15)) + (1 : Int32)) := own_jo _ hc62
      rw [q64] at J61
      exact J61
  show Gd _ _ _ _ (s₁.setTop (mkF m 189 #[.val (.long (Int64.ofNat n)), .second, .val (.ref P), .val (.int (((((((((((((((((1 : Int32) + bI (¬ Int64.ofNat n < own_p 1)) + bI (¬ Int64.ofNat n < own_p 2)) + bI (¬ Int64.ofNat n < own_p 3)) + bI (¬ Int64.ofNat n < own_p 4)) + bI (¬ Int64.ofNat n < own_p 5)) + bI (¬ Int64.ofNat n < own_p 6)) + bI (¬ Int64.ofNat n < own_p 7)) + bI (¬ Int64.ofNat n < own_p 8)) + bI (¬ Int64.ofNat n < own_p 9)) + bI (¬ Int64.ofNat n < own_p 10)) + bI (¬ Int64.ofNat n < own_p 11)) + bI (¬ Int64.ofNat n < own_p 12)) + bI (¬ Int64.ofNat n < own_p 13)) + bI (¬ Int64.ofNat n < own_p 14)) + bI (¬ Int64.ofNat n < own_p 15)) + bI (¬ Int64.ofNat n < own_p 16)))] []))
  refine Gd.via (S' := s₁.setTop (mkF m 201 #[.val (.long (Int64.ofNat n)), .second, .val (.ref P), .val (.int ((((((((((((((((((1 : Int32) + bI (¬ Int64.ofNat n < own_p 1)) + bI (¬ Int64.ofNat n < own_p 2)) + bI (¬ Int64.ofNat n < own_p 3)) + bI (¬ Int64.ofNat n < own_p 4)) + bI (¬ Int64.ofNat n < own_p 5)) + bI (¬ Int64.ofNat n < own_p 6)) + bI (¬ Int64.ofNat n < own_p 7)) + bI (¬ Int64.ofNat n < own_p 8)) + bI (¬ Int64.ofNat n < own_p 9)) + bI (¬ Int64.ofNat n < own_p 10)) + bI (¬ Int64.ofNat n < own_p 11)) + bI (¬ Int64.ofNat n < own_p 12)) + bI (¬ Int64.ofNat n < own_p 13)) + bI (¬ Int64.ofNat n < own_p 14)) + bI (¬ Int64.ofNat n < own_p 15)) + bI (¬ Int64.ofNat n < own_p 16)) + bI (¬ Int64.ofNat n < own_p 17)))] [])) (fun J65 => ?_) ?_
  · refine Gd.go (fun _ w_k => XS.lloadN X0.here hx rfl (hb hby d1_189) rfl w_k) ?_
    show Gd _ _ _ _ (s₁.setTop (mkF m 190 #[.val (.long (Int64.ofNat n)), .second, .val (.ref P), .val (.int (((((((((((((((((1 : Int32) + bI (¬ Int64.ofNat n < own_p 1)) + bI (¬ Int64.ofNat n < own_p 2)) + bI (¬ Int64.ofNat n < own_p 3)) + bI (¬ Int64.ofNat n < own_p 4)) + bI (¬ Int64.ofNat n < own_p 5)) + bI (¬ Int64.ofNat n < own_p 6)) + bI (¬ Int64.ofNat n < own_p 7)) + bI (¬ Int64.ofNat n < own_p 8)) + bI (¬ Int64.ofNat n < own_p 9)) + bI (¬ Int64.ofNat n < own_p 10)) + bI (¬ Int64.ofNat n < own_p 11)) + bI (¬ Int64.ofNat n < own_p 12)) + bI (¬ Int64.ofNat n < own_p 13)) + bI (¬ Int64.ofNat n < own_p 14)) + bI (¬ Int64.ofNat n < own_p 15)) + bI (¬ Int64.ofNat n < own_p 16)))] [(.long (Int64.ofNat n))]))
    refine Gd.go (fun _ w_k => XS.aloadN X0.here hx rfl (hb hby d1_190) rfl rfl w_k) ?_
    show Gd _ _ _ _ (s₁.setTop (mkF m 191 #[.val (.long (Int64.ofNat n)), .second, .val (.ref P), .val (.int (((((((((((((((((1 : Int32) + bI (¬ Int64.ofNat n < own_p 1)) + bI (¬ Int64.ofNat n < own_p 2)) + bI (¬ Int64.ofNat n < own_p 3)) + bI (¬ Int64.ofNat n < own_p 4)) + bI (¬ Int64.ofNat n < own_p 5)) + bI (¬ Int64.ofNat n < own_p 6)) + bI (¬ Int64.ofNat n < own_p 7)) + bI (¬ Int64.ofNat n < own_p 8)) + bI (¬ Int64.ofNat n < own_p 9)) + bI (¬ Int64.ofNat n < own_p 10)) + bI (¬ Int64.ofNat n < own_p 11)) + bI (¬ Int64.ofNat n < own_p 12)) + bI (¬ Int64.ofNat n < own_p 13)) + bI (¬ Int64.ofNat n < own_p 14)) + bI (¬ Int64.ofNat n < own_p 15)) + bI (¬ Int64.ofNat n < own_p 16)))] [(.ref P), (.long (Int64.ofNat n))]))
    refine Gd.go (fun _ w_k => XS.bipush X0.here hx rfl (hb hby d1_191) w_k) ?_
    show Gd _ _ _ _ (s₁.setTop (mkF m 193 #[.val (.long (Int64.ofNat n)), .second, .val (.ref P), .val (.int (((((((((((((((((1 : Int32) + bI (¬ Int64.ofNat n < own_p 1)) + bI (¬ Int64.ofNat n < own_p 2)) + bI (¬ Int64.ofNat n < own_p 3)) + bI (¬ Int64.ofNat n < own_p 4)) + bI (¬ Int64.ofNat n < own_p 5)) + bI (¬ Int64.ofNat n < own_p 6)) + bI (¬ Int64.ofNat n < own_p 7)) + bI (¬ Int64.ofNat n < own_p 8)) + bI (¬ Int64.ofNat n < own_p 9)) + bI (¬ Int64.ofNat n < own_p 10)) + bI (¬ Int64.ofNat n < own_p 11)) + bI (¬ Int64.ofNat n < own_p 12)) + bI (¬ Int64.ofNat n < own_p 13)) + bI (¬ Int64.ofNat n < own_p 14)) + bI (¬ Int64.ofNat n < own_p 15)) + bI (¬ Int64.ofNat n < own_p 16)))] [(.int (17 : Int32)), (.ref P), (.long (Int64.ofNat n))]))
    refine Gd.go (fun _ w_k => own_ldJ X0 hx hZ e0 AP (j := (17 : Int32)) (by decide) (by decide) (v := (.long (own_p 17))) rfl (g := (mkF m 193 #[.val (.long (Int64.ofNat n)), .second, .val (.ref P), .val (.int (((((((((((((((((1 : Int32) + bI (¬ Int64.ofNat n < own_p 1)) + bI (¬ Int64.ofNat n < own_p 2)) + bI (¬ Int64.ofNat n < own_p 3)) + bI (¬ Int64.ofNat n < own_p 4)) + bI (¬ Int64.ofNat n < own_p 5)) + bI (¬ Int64.ofNat n < own_p 6)) + bI (¬ Int64.ofNat n < own_p 7)) + bI (¬ Int64.ofNat n < own_p 8)) + bI (¬ Int64.ofNat n < own_p 9)) + bI (¬ Int64.ofNat n < own_p 10)) + bI (¬ Int64.ofNat n < own_p 11)) + bI (¬ Int64.ofNat n < own_p 12)) + bI (¬ Int64.ofNat n < own_p 13)) + bI (¬ Int64.ofNat n < own_p 14)) + bI (¬ Int64.ofNat n < own_p 15)) + bI (¬ Int64.ofNat n < own_p 16)))] [(.int (17 : Int32)), (.ref P), (.long (Int64.ofNat n))])) rfl rfl (hb hby d1_193) _ w_k) ?_
    show Gd _ _ _ _ (s₁.setTop (mkF m 194 #[.val (.long (Int64.ofNat n)), .second, .val (.ref P), .val (.int (((((((((((((((((1 : Int32) + bI (¬ Int64.ofNat n < own_p 1)) + bI (¬ Int64.ofNat n < own_p 2)) + bI (¬ Int64.ofNat n < own_p 3)) + bI (¬ Int64.ofNat n < own_p 4)) + bI (¬ Int64.ofNat n < own_p 5)) + bI (¬ Int64.ofNat n < own_p 6)) + bI (¬ Int64.ofNat n < own_p 7)) + bI (¬ Int64.ofNat n < own_p 8)) + bI (¬ Int64.ofNat n < own_p 9)) + bI (¬ Int64.ofNat n < own_p 10)) + bI (¬ Int64.ofNat n < own_p 11)) + bI (¬ Int64.ofNat n < own_p 12)) + bI (¬ Int64.ofNat n < own_p 13)) + bI (¬ Int64.ofNat n < own_p 14)) + bI (¬ Int64.ofNat n < own_p 15)) + bI (¬ Int64.ofNat n < own_p 16)))] [(.long (own_p 17)), (.long (Int64.ofNat n))]))
    refine Gd.go (fun _ w_k => XS.lcmp X0.here hx rfl (hb hby d1_194) rfl w_k) ?_
    show Gd _ _ _ _ (s₁.setTop (mkF m 195 #[.val (.long (Int64.ofNat n)), .second, .val (.ref P), .val (.int (((((((((((((((((1 : Int32) + bI (¬ Int64.ofNat n < own_p 1)) + bI (¬ Int64.ofNat n < own_p 2)) + bI (¬ Int64.ofNat n < own_p 3)) + bI (¬ Int64.ofNat n < own_p 4)) + bI (¬ Int64.ofNat n < own_p 5)) + bI (¬ Int64.ofNat n < own_p 6)) + bI (¬ Int64.ofNat n < own_p 7)) + bI (¬ Int64.ofNat n < own_p 8)) + bI (¬ Int64.ofNat n < own_p 9)) + bI (¬ Int64.ofNat n < own_p 10)) + bI (¬ Int64.ofNat n < own_p 11)) + bI (¬ Int64.ofNat n < own_p 12)) + bI (¬ Int64.ofNat n < own_p 13)) + bI (¬ Int64.ofNat n < own_p 14)) + bI (¬ Int64.ofNat n < own_p 15)) + bI (¬ Int64.ofNat n < own_p 16)))] [(.int (lcmpW (Int64.ofNat n) (own_p 17)))]))
    by_cases hc66 : (Int64.ofNat n) < (own_p 17)
    · refine Gd.go (fun _ w_k => XS.ifYes X0.here hx rfl (pc0 := 195) (pc' := 201) rfl (hb hby d1_195) rfl ((if0 _ _).trans (tlt ((lw_lt _ _).mpr hc66)).1) (by decide) (by decide) w_k) ?_
      show Gd _ _ _ _ (s₁.setTop (mkF m 201 #[.val (.long (Int64.ofNat n)), .second, .val (.ref P), .val (.int (((((((((((((((((1 : Int32) + bI (¬ Int64.ofNat n < own_p 1)) + bI (¬ Int64.ofNat n < own_p 2)) + bI (¬ Int64.ofNat n < own_p 3)) + bI (¬ Int64.ofNat n < own_p 4)) + bI (¬ Int64.ofNat n < own_p 5)) + bI (¬ Int64.ofNat n < own_p 6)) + bI (¬ Int64.ofNat n < own_p 7)) + bI (¬ Int64.ofNat n < own_p 8)) + bI (¬ Int64.ofNat n < own_p 9)) + bI (¬ Int64.ofNat n < own_p 10)) + bI (¬ Int64.ofNat n < own_p 11)) + bI (¬ Int64.ofNat n < own_p 12)) + bI (¬ Int64.ofNat n < own_p 13)) + bI (¬ Int64.ofNat n < own_p 14)) + bI (¬ Int64.ofNat n < own_p 15)) + bI (¬ Int64.ofNat n < own_p 16)))] []))
      have q67 : ((((((((((((((((((1 : Int32) + bI (¬ Int64.ofNat n < own_p 1)) + bI (¬ Int64.ofNat n < own_p 2)) + bI (¬ Int64.ofNat n < own_p 3)) + bI (¬ Int64.ofNat n < own_p 4)) + bI (¬ Int64.ofNat n < own_p 5)) + bI (¬ Int64.ofNat n < own_p 6)) + bI (¬ Int64.ofNat n < own_p 7)) + bI (¬ Int64.ofNat n < own_p 8)) + bI (¬ Int64.ofNat n < own_p 9)) + bI (¬ Int64.ofNat n < own_p 10)) + bI (¬ Int64.ofNat n < own_p 11)) + bI (¬ Int64.ofNat n < own_p 12)) + bI (¬ Int64.ofNat n < own_p 13)) + bI (¬ Int64.ofNat n < own_p 14)) + bI (¬ Int64.ofNat n < own_p 15)) + bI (¬ Int64.ofNat n < own_p 16)) + bI (¬ Int64.ofNat n < own_p 17)) = (((((((((((((((((1 : Int32) + bI (¬ Int64.ofNat n < own_p 1)) + bI (¬ Int64.ofNat n < own_p 2)) + bI (¬ Int64.ofNat n < own_p 3)) + bI (¬ Int64.ofNat n < own_p 4)) + bI (¬ Int64.ofNat n < own_p 5)) + bI (¬ Int64.ofNat n < own_p 6)) + bI (¬ Int64.ofNat n < own_p 7)) + bI (¬ Int64.ofNat n < own_p 8)) + bI (¬ Int64.ofNat n < own_p 9)) + bI (¬ Int64.ofNat n < own_p 10)) + bI (¬ Int64.ofNat n < own_p 11)) + bI (¬ Int64.ofNat n < own_p 12)) + bI (¬ Int64.ofNat n < own_p 13)) + bI (¬ Int64.ofNat n < own_p 14)) + bI (¬ Int64.ofNat n < own_p 15)) + bI (¬ Int64.ofNat n < own_p 16)) := own_jz _ hc66
      rw [q67] at J65
      exact J65
    · refine Gd.go (fun _ w_k => XS.ifNo X0.here hx rfl (hb hby d1_195) rfl ((if0 _ _).trans (flt (fun q => hc66 ((lw_lt _ _).mp q))).1) w_k) ?_
      show Gd _ _ _ _ (s₁.setTop (mkF m 198 #[.val (.long (Int64.ofNat n)), .second, .val (.ref P), .val (.int (((((((((((((((((1 : Int32) + bI (¬ Int64.ofNat n < own_p 1)) + bI (¬ Int64.ofNat n < own_p 2)) + bI (¬ Int64.ofNat n < own_p 3)) + bI (¬ Int64.ofNat n < own_p 4)) + bI (¬ Int64.ofNat n < own_p 5)) + bI (¬ Int64.ofNat n < own_p 6)) + bI (¬ Int64.ofNat n < own_p 7)) + bI (¬ Int64.ofNat n < own_p 8)) + bI (¬ Int64.ofNat n < own_p 9)) + bI (¬ Int64.ofNat n < own_p 10)) + bI (¬ Int64.ofNat n < own_p 11)) + bI (¬ Int64.ofNat n < own_p 12)) + bI (¬ Int64.ofNat n < own_p 13)) + bI (¬ Int64.ofNat n < own_p 14)) + bI (¬ Int64.ofNat n < own_p 15)) + bI (¬ Int64.ofNat n < own_p 16)))] []))
      refine Gd.go (fun _ w_k => XS.iinc X0.here hx rfl (hb hby d1_198) rfl (l' := #[.val (.long (Int64.ofNat n)), .second, .val (.ref P), .val (.int ((((((((((((((((((1 : Int32) + bI (¬ Int64.ofNat n < own_p 1)) + bI (¬ Int64.ofNat n < own_p 2)) + bI (¬ Int64.ofNat n < own_p 3)) + bI (¬ Int64.ofNat n < own_p 4)) + bI (¬ Int64.ofNat n < own_p 5)) + bI (¬ Int64.ofNat n < own_p 6)) + bI (¬ Int64.ofNat n < own_p 7)) + bI (¬ Int64.ofNat n < own_p 8)) + bI (¬ Int64.ofNat n < own_p 9)) + bI (¬ Int64.ofNat n < own_p 10)) + bI (¬ Int64.ofNat n < own_p 11)) + bI (¬ Int64.ofNat n < own_p 12)) + bI (¬ Int64.ofNat n < own_p 13)) + bI (¬ Int64.ofNat n < own_p 14)) + bI (¬ Int64.ofNat n < own_p 15)) + bI (¬ Int64.ofNat n < own_p 16)) + (1 : Int32)))]) rfl w_k) ?_
      show Gd _ _ _ _ (s₁.setTop (mkF m 201 #[.val (.long (Int64.ofNat n)), .second, .val (.ref P), .val (.int ((((((((((((((((((1 : Int32) + bI (¬ Int64.ofNat n < own_p 1)) + bI (¬ Int64.ofNat n < own_p 2)) + bI (¬ Int64.ofNat n < own_p 3)) + bI (¬ Int64.ofNat n < own_p 4)) + bI (¬ Int64.ofNat n < own_p 5)) + bI (¬ Int64.ofNat n < own_p 6)) + bI (¬ Int64.ofNat n < own_p 7)) + bI (¬ Int64.ofNat n < own_p 8)) + bI (¬ Int64.ofNat n < own_p 9)) + bI (¬ Int64.ofNat n < own_p 10)) + bI (¬ Int64.ofNat n < own_p 11)) + bI (¬ Int64.ofNat n < own_p 12)) + bI (¬ Int64.ofNat n < own_p 13)) + bI (¬ Int64.ofNat n < own_p 14)) + bI (¬ Int64.ofNat n < own_p 15)) + bI (¬ Int64.ofNat n < own_p 16)) + (1 : Int32)))] []))
      have q68 : ((((((((((((((((((1 : Int32) + bI (¬ Int64.ofNat n < own_p 1)) + bI (¬ Int64.ofNat n < own_p 2)) + bI (¬ Int64.ofNat n < own_p 3)) + bI (¬ Int64.ofNat n < own_p 4)) + bI (¬ Int64.ofNat n < own_p 5)) + bI (¬ Int64.ofNat n < own_p 6)) + bI (¬ Int64.ofNat n < own_p 7)) + bI (¬ Int64.ofNat n < own_p 8)) + bI (¬ Int64.ofNat n < own_p 9)) + bI (¬ Int64.ofNat n < own_p 10)) + bI (¬ Int64.ofNat n < own_p 11)) + bI (¬ Int64.ofNat n < own_p 12)) + bI (¬ Int64.ofNat n < own_p 13)) + bI (¬ Int64.ofNat n < own_p 14)) + bI (¬ Int64.ofNat n < own_p 15)) + bI (¬ Int64.ofNat n < own_p 16)) + bI (¬ Int64.ofNat n < own_p 17)) = ((((((((((((((((((1 : Int32) + bI (¬ Int64.ofNat n < own_p 1)) + bI (¬ Int64.ofNat n < own_p 2)) + bI (¬ Int64.ofNat n < own_p 3)) + bI (¬ Int64.ofNat n < own_p 4)) + bI (¬ Int64.ofNat n < own_p 5)) + bI (¬ Int64.ofNat n < own_p 6)) + bI (¬ Int64.ofNat n < own_p 7)) + bI (¬ Int64.ofNat n < own_p 8)) + bI (¬ Int64.ofNat n < own_p 9)) + bI (¬ Int64.ofNat n < own_p 10)) + bI (¬ Int64.ofNat n < own_p 11)) + bI (¬ Int64.ofNat n < own_p 12)) + bI (¬ Int64.ofNat n < own_p 13)) + bI (¬ Int64.ofNat n < own_p 14)) + bI (¬ Int64.ofNat n < own_p 15)) + bI (¬ Int64.ofNat n < own_p 16)) + (1 : Int32)) := own_jo _ hc66
      rw [q68] at J65
      exact J65
  show Gd _ _ _ _ (s₁.setTop (mkF m 201 #[.val (.long (Int64.ofNat n)), .second, .val (.ref P), .val (.int ((((((((((((((((((1 : Int32) + bI (¬ Int64.ofNat n < own_p 1)) + bI (¬ Int64.ofNat n < own_p 2)) + bI (¬ Int64.ofNat n < own_p 3)) + bI (¬ Int64.ofNat n < own_p 4)) + bI (¬ Int64.ofNat n < own_p 5)) + bI (¬ Int64.ofNat n < own_p 6)) + bI (¬ Int64.ofNat n < own_p 7)) + bI (¬ Int64.ofNat n < own_p 8)) + bI (¬ Int64.ofNat n < own_p 9)) + bI (¬ Int64.ofNat n < own_p 10)) + bI (¬ Int64.ofNat n < own_p 11)) + bI (¬ Int64.ofNat n < own_p 12)) + bI (¬ Int64.ofNat n < own_p 13)) + bI (¬ Int64.ofNat n < own_p 14)) + bI (¬ Int64.ofNat n < own_p 15)) + bI (¬ Int64.ofNat n < own_p 16)) + bI (¬ Int64.ofNat n < own_p 17)))] []))
  refine Gd.via (S' := s₁.setTop (mkF m 213 #[.val (.long (Int64.ofNat n)), .second, .val (.ref P), .val (.int (((((((((((((((((((1 : Int32) + bI (¬ Int64.ofNat n < own_p 1)) + bI (¬ Int64.ofNat n < own_p 2)) + bI (¬ Int64.ofNat n < own_p 3)) + bI (¬ Int64.ofNat n < own_p 4)) + bI (¬ Int64.ofNat n < own_p 5)) + bI (¬ Int64.ofNat n < own_p 6)) + bI (¬ Int64.ofNat n < own_p 7)) + bI (¬ Int64.ofNat n < own_p 8)) + bI (¬ Int64.ofNat n < own_p 9)) + bI (¬ Int64.ofNat n < own_p 10)) + bI (¬ Int64.ofNat n < own_p 11)) + bI (¬ Int64.ofNat n < own_p 12)) + bI (¬ Int64.ofNat n < own_p 13)) + bI (¬ Int64.ofNat n < own_p 14)) + bI (¬ Int64.ofNat n < own_p 15)) + bI (¬ Int64.ofNat n < own_p 16)) + bI (¬ Int64.ofNat n < own_p 17)) + bI (¬ Int64.ofNat n < own_p 18)))] [])) (fun J69 => ?_) ?_
  · refine Gd.go (fun _ w_k => XS.lloadN X0.here hx rfl (hb hby d1_201) rfl w_k) ?_
    show Gd _ _ _ _ (s₁.setTop (mkF m 202 #[.val (.long (Int64.ofNat n)), .second, .val (.ref P), .val (.int ((((((((((((((((((1 : Int32) + bI (¬ Int64.ofNat n < own_p 1)) + bI (¬ Int64.ofNat n < own_p 2)) + bI (¬ Int64.ofNat n < own_p 3)) + bI (¬ Int64.ofNat n < own_p 4)) + bI (¬ Int64.ofNat n < own_p 5)) + bI (¬ Int64.ofNat n < own_p 6)) + bI (¬ Int64.ofNat n < own_p 7)) + bI (¬ Int64.ofNat n < own_p 8)) + bI (¬ Int64.ofNat n < own_p 9)) + bI (¬ Int64.ofNat n < own_p 10)) + bI (¬ Int64.ofNat n < own_p 11)) + bI (¬ Int64.ofNat n < own_p 12)) + bI (¬ Int64.ofNat n < own_p 13)) + bI (¬ Int64.ofNat n < own_p 14)) + bI (¬ Int64.ofNat n < own_p 15)) + bI (¬ Int64.ofNat n < own_p 16)) + bI (¬ Int64.ofNat n < own_p 17)))] [(.long (Int64.ofNat n))]))
    refine Gd.go (fun _ w_k => XS.aloadN X0.here hx rfl (hb hby d1_202) rfl rfl w_k) ?_
    show Gd _ _ _ _ (s₁.setTop (mkF m 203 #[.val (.long (Int64.ofNat n)), .second, .val (.ref P), .val (.int ((((((((((((((((((1 : Int32) + bI (¬ Int64.ofNat n < own_p 1)) + bI (¬ Int64.ofNat n < own_p 2)) + bI (¬ Int64.ofNat n < own_p 3)) + bI (¬ Int64.ofNat n < own_p 4)) + bI (¬ Int64.ofNat n < own_p 5)) + bI (¬ Int64.ofNat n < own_p 6)) + bI (¬ Int64.ofNat n < own_p 7)) + bI (¬ Int64.ofNat n < own_p 8)) + bI (¬ Int64.ofNat n < own_p 9)) + bI (¬ Int64.ofNat n < own_p 10)) + bI (¬ Int64.ofNat n < own_p 11)) + bI (¬ Int64.ofNat n < own_p 12)) + bI (¬ Int64.ofNat n < own_p 13)) + bI (¬ Int64.ofNat n < own_p 14)) + bI (¬ Int64.ofNat n < own_p 15)) + bI (¬ Int64.ofNat n < own_p 16)) + bI (¬ Int64.ofNat n < own_p 17)))] [(.ref P), (.long (Int64.ofNat n))]))
    refine Gd.go (fun _ w_k => XS.bipush X0.here hx rfl (hb hby d1_203) w_k) ?_
    show Gd _ _ _ _ (s₁.setTop (mkF m 205 #[.val (.long (Int64.ofNat n)), .second, .val (.ref P), .val (.int ((((((((((((((((((1 : Int32) + bI (¬ Int64.ofNat n < own_p 1)) + bI (¬ Int64.ofNat n < own_p 2)) + bI (¬ Int64.ofNat n < own_p 3)) + bI (¬ Int64.ofNat n < own_p 4)) + bI (¬ Int64.ofNat n < own_p 5)) + bI (¬ Int64.ofNat n < own_p 6)) + bI (¬ Int64.ofNat n < own_p 7)) + bI (¬ Int64.ofNat n < own_p 8)) + bI (¬ Int64.ofNat n < own_p 9)) + bI (¬ Int64.ofNat n < own_p 10)) + bI (¬ Int64.ofNat n < own_p 11)) + bI (¬ Int64.ofNat n < own_p 12)) + bI (¬ Int64.ofNat n < own_p 13)) + bI (¬ Int64.ofNat n < own_p 14)) + bI (¬ Int64.ofNat n < own_p 15)) + bI (¬ Int64.ofNat n < own_p 16)) + bI (¬ Int64.ofNat n < own_p 17)))] [(.int (18 : Int32)), (.ref P), (.long (Int64.ofNat n))]))
    refine Gd.go (fun _ w_k => own_ldJ X0 hx hZ e0 AP (j := (18 : Int32)) (by decide) (by decide) (v := (.long (own_p 18))) rfl (g := (mkF m 205 #[.val (.long (Int64.ofNat n)), .second, .val (.ref P), .val (.int ((((((((((((((((((1 : Int32) + bI (¬ Int64.ofNat n < own_p 1)) + bI (¬ Int64.ofNat n < own_p 2)) + bI (¬ Int64.ofNat n < own_p 3)) + bI (¬ Int64.ofNat n < own_p 4)) + bI (¬ Int64.ofNat n < own_p 5)) + bI (¬ Int64.ofNat n < own_p 6)) + bI (¬ Int64.ofNat n < own_p 7)) + bI (¬ Int64.ofNat n < own_p 8)) + bI (¬ Int64.ofNat n < own_p 9)) + bI (¬ Int64.ofNat n < own_p 10)) + bI (¬ Int64.ofNat n < own_p 11)) + bI (¬ Int64.ofNat n < own_p 12)) + bI (¬ Int64.ofNat n < own_p 13)) + bI (¬ Int64.ofNat n < own_p 14)) + bI (¬ Int64.ofNat n < own_p 15)) + bI (¬ Int64.ofNat n < own_p 16)) + bI (¬ Int64.ofNat n < own_p 17)))] [(.int (18 : Int32)), (.ref P), (.long (Int64.ofNat n))])) rfl rfl (hb hby d1_205) _ w_k) ?_
    show Gd _ _ _ _ (s₁.setTop (mkF m 206 #[.val (.long (Int64.ofNat n)), .second, .val (.ref P), .val (.int ((((((((((((((((((1 : Int32) + bI (¬ Int64.ofNat n < own_p 1)) + bI (¬ Int64.ofNat n < own_p 2)) + bI (¬ Int64.ofNat n < own_p 3)) + bI (¬ Int64.ofNat n < own_p 4)) + bI (¬ Int64.ofNat n < own_p 5)) + bI (¬ Int64.ofNat n < own_p 6)) + bI (¬ Int64.ofNat n < own_p 7)) + bI (¬ Int64.ofNat n < own_p 8)) + bI (¬ Int64.ofNat n < own_p 9)) + bI (¬ Int64.ofNat n < own_p 10)) + bI (¬ Int64.ofNat n < own_p 11)) + bI (¬ Int64.ofNat n < own_p 12)) + bI (¬ Int64.ofNat n < own_p 13)) + bI (¬ Int64.ofNat n < own_p 14)) + bI (¬ Int64.ofNat n < own_p 15)) + bI (¬ Int64.ofNat n < own_p 16)) + bI (¬ Int64.ofNat n < own_p 17)))] [(.long (own_p 18)), (.long (Int64.ofNat n))]))
    refine Gd.go (fun _ w_k => XS.lcmp X0.here hx rfl (hb hby d1_206) rfl w_k) ?_
    show Gd _ _ _ _ (s₁.setTop (mkF m 207 #[.val (.long (Int64.ofNat n)), .second, .val (.ref P), .val (.int ((((((((((((((((((1 : Int32) + bI (¬ Int64.ofNat n < own_p 1)) + bI (¬ Int64.ofNat n < own_p 2)) + bI (¬ Int64.ofNat n < own_p 3)) + bI (¬ Int64.ofNat n < own_p 4)) + bI (¬ Int64.ofNat n < own_p 5)) + bI (¬ Int64.ofNat n < own_p 6)) + bI (¬ Int64.ofNat n < own_p 7)) + bI (¬ Int64.ofNat n < own_p 8)) + bI (¬ Int64.ofNat n < own_p 9)) + bI (¬ Int64.ofNat n < own_p 10)) + bI (¬ Int64.ofNat n < own_p 11)) + bI (¬ Int64.ofNat n < own_p 12)) + bI (¬ Int64.ofNat n < own_p 13)) + bI (¬ Int64.ofNat n < own_p 14)) + bI (¬ Int64.ofNat n < own_p 15)) + bI (¬ Int64.ofNat n < own_p 16)) + bI (¬ Int64.ofNat n < own_p 17)))] [(.int (lcmpW (Int64.ofNat n) (own_p 18)))]))
    by_cases hc70 : (Int64.ofNat n) < (own_p 18)
    · refine Gd.go (fun _ w_k => XS.ifYes X0.here hx rfl (pc0 := 207) (pc' := 213) rfl (hb hby d1_207) rfl ((if0 _ _).trans (tlt ((lw_lt _ _).mpr hc70)).1) (by decide) (by decide) w_k) ?_
      show Gd _ _ _ _ (s₁.setTop (mkF m 213 #[.val (.long (Int64.ofNat n)), .second, .val (.ref P), .val (.int ((((((((((((((((((1 : Int32) + bI (¬ Int64.ofNat n < own_p 1)) + bI (¬ Int64.ofNat n < own_p 2)) + bI (¬ Int64.ofNat n < own_p 3)) + bI (¬ Int64.ofNat n < own_p 4)) + bI (¬ Int64.ofNat n < own_p 5)) + bI (¬ Int64.ofNat n < own_p 6)) + bI (¬ Int64.ofNat n < own_p 7)) + bI (¬ Int64.ofNat n < own_p 8)) + bI (¬ Int64.ofNat n < own_p 9)) + bI (¬ Int64.ofNat n < own_p 10)) + bI (¬ Int64.ofNat n < own_p 11)) + bI (¬ Int64.ofNat n < own_p 12)) + bI (¬ Int64.ofNat n < own_p 13)) + bI (¬ Int64.ofNat n < own_p 14)) + bI (¬ Int64.ofNat n < own_p 15)) + bI (¬ Int64.ofNat n < own_p 16)) + bI (¬ Int64.ofNat n < own_p 17)))] []))
      have q71 : (((((((((((((((((((1 : Int32) + bI (¬ Int64.ofNat n < own_p 1)) + bI (¬ Int64.ofNat n < own_p 2)) + bI (¬ Int64.ofNat n < own_p 3)) + bI (¬ Int64.ofNat n < own_p 4)) + bI (¬ Int64.ofNat n < own_p 5)) + bI (¬ Int64.ofNat n < own_p 6)) + bI (¬ Int64.ofNat n < own_p 7)) + bI (¬ Int64.ofNat n < own_p 8)) + bI (¬ Int64.ofNat n < own_p 9)) + bI (¬ Int64.ofNat n < own_p 10)) + bI (¬ Int64.ofNat n < own_p 11)) + bI (¬ Int64.ofNat n < own_p 12)) + bI (¬ Int64.ofNat n < own_p 13)) + bI (¬ Int64.ofNat n < own_p 14)) + bI (¬ Int64.ofNat n < own_p 15)) + bI (¬ Int64.ofNat n < own_p 16)) + bI (¬ Int64.ofNat n < own_p 17)) + bI (¬ Int64.ofNat n < own_p 18)) = ((((((((((((((((((1 : Int32) + bI (¬ Int64.ofNat n < own_p 1)) + bI (¬ Int64.ofNat n < own_p 2)) + bI (¬ Int64.ofNat n < own_p 3)) + bI (¬ Int64.ofNat n < own_p 4)) + bI (¬ Int64.ofNat n < own_p 5)) + bI (¬ Int64.ofNat n < own_p 6)) + bI (¬ Int64.ofNat n < own_p 7)) + bI (¬ Int64.ofNat n < own_p 8)) + bI (¬ Int64.ofNat n < own_p 9)) + bI (¬ Int64.ofNat n < own_p 10)) + bI (¬ Int64.ofNat n < own_p 11)) + bI (¬ Int64.ofNat n < own_p 12)) + bI (¬ Int64.ofNat n < own_p 13)) + bI (¬ Int64.ofNat n < own_p 14)) + bI (¬ Int64.ofNat n < own_p 15)) + bI (¬ Int64.ofNat n < own_p 16)) + bI (¬ Int64.ofNat n < own_p 17)) := own_jz _ hc70
      rw [q71] at J69
      exact J69
    · refine Gd.go (fun _ w_k => XS.ifNo X0.here hx rfl (hb hby d1_207) rfl ((if0 _ _).trans (flt (fun q => hc70 ((lw_lt _ _).mp q))).1) w_k) ?_
      show Gd _ _ _ _ (s₁.setTop (mkF m 210 #[.val (.long (Int64.ofNat n)), .second, .val (.ref P), .val (.int ((((((((((((((((((1 : Int32) + bI (¬ Int64.ofNat n < own_p 1)) + bI (¬ Int64.ofNat n < own_p 2)) + bI (¬ Int64.ofNat n < own_p 3)) + bI (¬ Int64.ofNat n < own_p 4)) + bI (¬ Int64.ofNat n < own_p 5)) + bI (¬ Int64.ofNat n < own_p 6)) + bI (¬ Int64.ofNat n < own_p 7)) + bI (¬ Int64.ofNat n < own_p 8)) + bI (¬ Int64.ofNat n < own_p 9)) + bI (¬ Int64.ofNat n < own_p 10)) + bI (¬ Int64.ofNat n < own_p 11)) + bI (¬ Int64.ofNat n < own_p 12)) + bI (¬ Int64.ofNat n < own_p 13)) + bI (¬ Int64.ofNat n < own_p 14)) + bI (¬ Int64.ofNat n < own_p 15)) + bI (¬ Int64.ofNat n < own_p 16)) + bI (¬ Int64.ofNat n < own_p 17)))] []))
      refine Gd.go (fun _ w_k => XS.iinc X0.here hx rfl (hb hby d1_210) rfl (l' := #[.val (.long (Int64.ofNat n)), .second, .val (.ref P), .val (.int (((((((((((((((((((1 : Int32) + bI (¬ Int64.ofNat n < own_p 1)) + bI (¬ Int64.ofNat n < own_p 2)) + bI (¬ Int64.ofNat n < own_p 3)) + bI (¬ Int64.ofNat n < own_p 4)) + bI (¬ Int64.ofNat n < own_p 5)) + bI (¬ Int64.ofNat n < own_p 6)) + bI (¬ Int64.ofNat n < own_p 7)) + bI (¬ Int64.ofNat n < own_p 8)) + bI (¬ Int64.ofNat n < own_p 9)) + bI (¬ Int64.ofNat n < own_p 10)) + bI (¬ Int64.ofNat n < own_p 11)) + bI (¬ Int64.ofNat n < own_p 12)) + bI (¬ Int64.ofNat n < own_p 13)) + bI (¬ Int64.ofNat n < own_p 14)) + bI (¬ Int64.ofNat n < own_p 15)) + bI (¬ Int64.ofNat n < own_p 16)) + bI (¬ Int64.ofNat n < own_p 17)) + (1 : Int32)))]) rfl w_k) ?_
      show Gd _ _ _ _ (s₁.setTop (mkF m 213 #[.val (.long (Int64.ofNat n)), .second, .val (.ref P), .val (.int (((((((((((((((((((1 : Int32) + bI (¬ Int64.ofNat n < own_p 1)) + bI (¬ Int64.ofNat n < own_p 2)) + bI (¬ Int64.ofNat n < own_p 3)) + bI (¬ Int64.ofNat n < own_p 4)) + bI (¬ Int64.ofNat n < own_p 5)) + bI (¬ Int64.ofNat n < own_p 6)) + bI (¬ Int64.ofNat n < own_p 7)) + bI (¬ Int64.ofNat n < own_p 8)) + bI (¬ Int64.ofNat n < own_p 9)) + bI (¬ Int64.ofNat n < own_p 10)) + bI (¬ Int64.ofNat n < own_p 11)) + bI (¬ Int64.ofNat n < own_p 12)) + bI (¬ Int64.ofNat n < own_p 13)) + bI (¬ Int64.ofNat n < own_p 14)) + bI (¬ Int64.ofNat n < own_p 15)) + bI (¬ Int64.ofNat n < own_p 16)) + bI (¬ Int64.ofNat n < own_p 17)) + (1 : Int32)))] []))
      have q72 : (((((((((((((((((((1 : Int32) + bI (¬ Int64.ofNat n < own_p 1)) + bI (¬ Int64.ofNat n < own_p 2)) + bI (¬ Int64.ofNat n < own_p 3)) + bI (¬ Int64.ofNat n < own_p 4)) + bI (¬ Int64.ofNat n < own_p 5)) + bI (¬ Int64.ofNat n < own_p 6)) + bI (¬ Int64.ofNat n < own_p 7)) + bI (¬ Int64.ofNat n < own_p 8)) + bI (¬ Int64.ofNat n < own_p 9)) + bI (¬ Int64.ofNat n < own_p 10)) + bI (¬ Int64.ofNat n < own_p 11)) + bI (¬ Int64.ofNat n < own_p 12)) + bI (¬ Int64.ofNat n < own_p 13)) + bI (¬ Int64.ofNat n < own_p 14)) + bI (¬ Int64.ofNat n < own_p 15)) + bI (¬ Int64.ofNat n < own_p 16)) + bI (¬ Int64.ofNat n < own_p 17)) + bI (¬ Int64.ofNat n < own_p 18)) = (((((((((((((((((((1 : Int32) + bI (¬ Int64.ofNat n < own_p 1)) + bI (¬ Int64.ofNat n < own_p 2)) + bI (¬ Int64.ofNat n < own_p 3)) + bI (¬ Int64.ofNat n < own_p 4)) + bI (¬ Int64.ofNat n < own_p 5)) + bI (¬ Int64.ofNat n < own_p 6)) + bI (¬ Int64.ofNat n < own_p 7)) + bI (¬ Int64.ofNat n < own_p 8)) + bI (¬ Int64.ofNat n < own_p 9)) + bI (¬ Int64.ofNat n < own_p 10)) + bI (¬ Int64.ofNat n < own_p 11)) + bI (¬ Int64.ofNat n < own_p 12)) + bI (¬ Int64.ofNat n < own_p 13)) + bI (¬ Int64.ofNat n < own_p 14)) + bI (¬ Int64.ofNat n < own_p 15)) + bI (¬ Int64.ofNat n < own_p 16)) + bI (¬ Int64.ofNat n < own_p 17)) + (1 : Int32)) := own_jo _ hc70
      rw [q72] at J69
      exact J69
  show Gd _ _ _ _ (s₁.setTop (mkF m 213 #[.val (.long (Int64.ofNat n)), .second, .val (.ref P), .val (.int (((((((((((((((((((1 : Int32) + bI (¬ Int64.ofNat n < own_p 1)) + bI (¬ Int64.ofNat n < own_p 2)) + bI (¬ Int64.ofNat n < own_p 3)) + bI (¬ Int64.ofNat n < own_p 4)) + bI (¬ Int64.ofNat n < own_p 5)) + bI (¬ Int64.ofNat n < own_p 6)) + bI (¬ Int64.ofNat n < own_p 7)) + bI (¬ Int64.ofNat n < own_p 8)) + bI (¬ Int64.ofNat n < own_p 9)) + bI (¬ Int64.ofNat n < own_p 10)) + bI (¬ Int64.ofNat n < own_p 11)) + bI (¬ Int64.ofNat n < own_p 12)) + bI (¬ Int64.ofNat n < own_p 13)) + bI (¬ Int64.ofNat n < own_p 14)) + bI (¬ Int64.ofNat n < own_p 15)) + bI (¬ Int64.ofNat n < own_p 16)) + bI (¬ Int64.ofNat n < own_p 17)) + bI (¬ Int64.ofNat n < own_p 18)))] []))
  refine Gd.go (fun _ w_k => XS.iloadN X0.here hx rfl (hb hby d1_213) rfl w_k) ?_
  show Gd _ _ _ _ (s₁.setTop (mkF m 214 #[.val (.long (Int64.ofNat n)), .second, .val (.ref P), .val (.int (((((((((((((((((((1 : Int32) + bI (¬ Int64.ofNat n < own_p 1)) + bI (¬ Int64.ofNat n < own_p 2)) + bI (¬ Int64.ofNat n < own_p 3)) + bI (¬ Int64.ofNat n < own_p 4)) + bI (¬ Int64.ofNat n < own_p 5)) + bI (¬ Int64.ofNat n < own_p 6)) + bI (¬ Int64.ofNat n < own_p 7)) + bI (¬ Int64.ofNat n < own_p 8)) + bI (¬ Int64.ofNat n < own_p 9)) + bI (¬ Int64.ofNat n < own_p 10)) + bI (¬ Int64.ofNat n < own_p 11)) + bI (¬ Int64.ofNat n < own_p 12)) + bI (¬ Int64.ofNat n < own_p 13)) + bI (¬ Int64.ofNat n < own_p 14)) + bI (¬ Int64.ofNat n < own_p 15)) + bI (¬ Int64.ofNat n < own_p 16)) + bI (¬ Int64.ofNat n < own_p 17)) + bI (¬ Int64.ofNat n < own_p 18)))] [(.int (((((((((((((((((((1 : Int32) + bI (¬ Int64.ofNat n < own_p 1)) + bI (¬ Int64.ofNat n < own_p 2)) + bI (¬ Int64.ofNat n < own_p 3)) + bI (¬ Int64.ofNat n < own_p 4)) + bI (¬ Int64.ofNat n < own_p 5)) + bI (¬ Int64.ofNat n < own_p 6)) + bI (¬ Int64.ofNat n < own_p 7)) + bI (¬ Int64.ofNat n < own_p 8)) + bI (¬ Int64.ofNat n < own_p 9)) + bI (¬ Int64.ofNat n < own_p 10)) + bI (¬ Int64.ofNat n < own_p 11)) + bI (¬ Int64.ofNat n < own_p 12)) + bI (¬ Int64.ofNat n < own_p 13)) + bI (¬ Int64.ofNat n < own_p 14)) + bI (¬ Int64.ofNat n < own_p 15)) + bI (¬ Int64.ofNat n < own_p 16)) + bI (¬ Int64.ofNat n < own_p 17)) + bI (¬ Int64.ofNat n < own_p 18)))]))
  refine own_retI X0 hx hret hlk (hb hby d1_214) ?_ (by decide) (by decide)
  refine ⟨congrArg (fun q => some (Value.int q)) ?_, e0, rfl⟩
  rw [own_bj hk hn (j := 1) (by decide) (by decide), own_bj hk hn (j := 2) (by decide) (by decide), own_bj hk hn (j := 3) (by decide) (by decide), own_bj hk hn (j := 4) (by decide) (by decide), own_bj hk hn (j := 5) (by decide) (by decide), own_bj hk hn (j := 6) (by decide) (by decide), own_bj hk hn (j := 7) (by decide) (by decide), own_bj hk hn (j := 8) (by decide) (by decide), own_bj hk hn (j := 9) (by decide) (by decide), own_bj hk hn (j := 10) (by decide) (by decide), own_bj hk hn (j := 11) (by decide) (by decide), own_bj hk hn (j := 12) (by decide) (by decide), own_bj hk hn (j := 13) (by decide) (by decide), own_bj hk hn (j := 14) (by decide) (by decide), own_bj hk hn (j := 15) (by decide) (by decide), own_bj hk hn (j := 16) (by decide) (by decide), own_bj hk hn (j := 17) (by decide) (by decide), own_bj hk hn (j := 18) (by decide) (by decide)]
  exact own_sum ⟨k, by have := hk.2.1; omega⟩ hk.1
theorem own_rE {ln i : Nat} (h : i < ln) : Int32.ofNat ln - (1 : Int32) - Int32.ofNat i = Int32.ofNat (ln - 1 - i) := by
  rw [show Int32.ofNat ln - (1 : Int32) = Int32.ofNat (ln - 1) from own_subN (a := 1) (by omega), own_subN (by omega)]
theorem own_rem4 {r : Nat} (h : r < 32) : Int32.ofNat r % (4 : Int32) = Int32.ofNat (r % 4) := by
  have : ∀ r : Fin 32, Int32.ofNat r.val % (4 : Int32) = Int32.ofNat (r.val % 4) := by decide +kernel
  exact this ⟨r, h⟩
theorem own_jE {r : Nat} (h : r < 32) : Int32.ofNat r - Int32.ofNat r / (4 : Int32) = Int32.ofNat (r - r / 4) := by
  have : ∀ r : Fin 32, Int32.ofNat r.val - Int32.ofNat r.val / (4 : Int32) = Int32.ofNat (r.val - r.val / 4) := by decide +kernel
  exact this ⟨r, h⟩
theorem own_pnz {j : Nat} (h : j ≤ 18) : own_p j ≠ 0 := fun q => by
  have e := congrArg Int64.toInt q
  unfold own_p at e
  rw [own_i64 (own_p64 h)] at e
  have : (0 : Int64).toInt = 0 := rfl
  have hp : 10 ^ 0 ≤ 10 ^ j := Nat.pow_le_pow_right (by decide) (Nat.zero_le j)
  generalize 10 ^ j = z at e hp
  omega
theorem own_divp {n j : Nat} (hn : n < 2 ^ 63) (h : j ≤ 18) : Int64.ofNat n / own_p j = Int64.ofNat (n / 10 ^ j) := by
  apply Int64.toInt_inj.mp
  have hp : (own_p j).toInt = ((10 ^ j : Nat) : Int) := own_i64 (own_p64 h)
  have a := (c_ldiv (Int64.ofNat n) (own_p j) _ hp (fun q => by have e : (0 : Int) ≤ ((10 ^ j : Nat) : Int) := Int.natCast_nonneg _; rw [← hp, q] at e; exact absurd e (by decide))).1 (by rw [own_i64 hn]; omega)
  rw [a, own_i64 hn, own_i64 (Nat.lt_of_le_of_lt (Nat.div_le_self _ _) hn)]
  exact (Int.natCast_ediv n (10 ^ j)).symm
theorem own_rem10 {a : Nat} (ha : a < 2 ^ 63) : Int64.ofNat a - Int64.ofNat a / (10 : Int64) * (10 : Int64) = Int64.ofNat (a % 10) := by
  apply Int64.toInt_inj.mp
  rw [(c_lrem (Int64.ofNat a) 10 10 rfl).1 (by rw [own_i64 ha]; omega), own_i64 ha, own_i64 (by omega)]
  omega
theorem own_l2iN {d : Nat} (h : d < 2 ^ 31) : (Int64.ofNat d).toInt32 = Int32.ofNat d := by
  apply Int32.toInt_inj.mp
  have c := c_l2i (Int64.ofNat d); have rc := rng32 ((Int64.ofNat d).toInt32)
  rw [own_i64 (by omega)] at c
  rw [own_ofN h]; omega
theorem own_add48 (d : Nat) : (48 : Int32) + Int32.ofNat d = Int32.ofNat (48 + d) := own_addN 48 d
theorem own_pn35 : plainFor (⟨"com/example/yuletally/yuletally/engine/DigitsGroupedPinLaw", "at", "(Ljava/lang/String;J[JII)Z"⟩ : MethodName) = true := by first | exact plainFor_of_name (by first | (simp [plainName, overriddenIn, x]; done) | decide +kernel) | decide +kernel
theorem ef_27 (m : MethodId) (q0 : Addr) (q1 : Int64) (q2 : Addr) (q3 : Int32) (q4 : Int32) : entryFrame m #[(.ref q0), (.long q1), (.ref q2), (.int q3), (.int q4)] 9 = mkF m 0 #[.val (.ref q0), .val (.long q1), .second, .val (.ref q2), .val (.int q3), .val (.int q4), .unset, .unset, .unset] [] := by first | (simp [entryFrame, mkF, argsToLocals, Value.category, maxLocals]; done) | rfl
theorem d27_0 : decode method_4_code 0 = .ok (.iload 5, 2) := by decide +kernel
theorem d27_2 : decode method_4_code 2 = .ok (.iload 4, 2) := by decide +kernel
theorem d27_4 : decode method_4_code 4 = .ok (.if_icmp .lt 5, 3) := by decide +kernel
theorem d27_9 : decode method_4_code 9 = .ok (.iload 4, 2) := by decide +kernel
theorem d27_11 : decode method_4_code 11 = .ok (.iconst 1, 1) := by decide +kernel
theorem d27_12 : decode method_4_code 12 = .ok (.isub, 1) := by decide +kernel
theorem d27_13 : decode method_4_code 13 = .ok (.iload 5, 2) := by decide +kernel
theorem d27_15 : decode method_4_code 15 = .ok (.isub, 1) := by decide +kernel
theorem d27_16 : decode method_4_code 16 = .ok (.istore 6, 2) := by decide +kernel
theorem d27_18 : decode method_4_code 18 = .ok (.iload 6, 2) := by decide +kernel
theorem d27_20 : decode method_4_code 20 = .ok (.iconst 4, 1) := by decide +kernel
theorem d27_21 : decode method_4_code 21 = .ok (.irem, 1) := by decide +kernel
theorem d27_22 : decode method_4_code 22 = .ok (.iconst 3, 1) := by decide +kernel
theorem d27_23 : decode method_4_code 23 = .ok (.if_icmp .ne 10, 3) := by decide +kernel
theorem d27_26 : decode method_4_code 26 = .ok (.bipush 44, 2) := by decide +kernel
theorem d27_28 : decode method_4_code 28 = .ok (.istore 7, 2) := by decide +kernel
theorem d27_30 : decode method_4_code 30 = .ok (.goto 29, 3) := by decide +kernel
theorem d27_59 : decode method_4_code 59 = .ok (.aload_n 0, 1) := by decide +kernel
theorem d27_60 : decode method_4_code 60 = .ok (.iload 5, 2) := by decide +kernel
theorem own_pd24 : parseMethodDescriptor "(I)C" = some ⟨[.int], some .char⟩ := by decide +kernel
theorem d27_62 : decode method_4_code 62 = .ok (.invokevirtual 69, 3) := by decide +kernel
theorem d27_65 : decode method_4_code 65 = .ok (.iload 7, 2) := by decide +kernel
theorem d27_67 : decode method_4_code 67 = .ok (.if_icmp .ne 7, 3) := by decide +kernel
theorem d27_70 : decode method_4_code 70 = .ok (.iconst 1, 1) := by decide +kernel
theorem d27_71 : decode method_4_code 71 = .ok (.goto 4, 3) := by decide +kernel
theorem d27_75 : decode method_4_code 75 = .ok (.ireturn, 1) := by decide +kernel
theorem d27_33 : decode method_4_code 33 = .ok (.iload 6, 2) := by decide +kernel
theorem d27_35 : decode method_4_code 35 = .ok (.iload 6, 2) := by decide +kernel
theorem d27_37 : decode method_4_code 37 = .ok (.iconst 4, 1) := by decide +kernel
theorem d27_38 : decode method_4_code 38 = .ok (.idiv, 1) := by decide +kernel
theorem d27_39 : decode method_4_code 39 = .ok (.isub, 1) := by decide +kernel
theorem d27_40 : decode method_4_code 40 = .ok (.istore 8, 2) := by decide +kernel
theorem d27_42 : decode method_4_code 42 = .ok (.bipush 48, 2) := by decide +kernel
theorem d27_44 : decode method_4_code 44 = .ok (.lload_n 1, 1) := by decide +kernel
theorem d27_45 : decode method_4_code 45 = .ok (.aload_n 3, 1) := by decide +kernel
theorem d27_46 : decode method_4_code 46 = .ok (.iload 8, 2) := by decide +kernel
theorem d27_48 : decode method_4_code 48 = .ok (.laload, 1) := by decide +kernel
theorem d27_49 : decode method_4_code 49 = .ok (.ldiv, 1) := by decide +kernel
theorem d27_50 : decode method_4_code 50 = .ok (.ldc2_w 11, 3) := by decide +kernel
theorem d27_53 : decode method_4_code 53 = .ok (.lrem, 1) := by decide +kernel
theorem d27_54 : decode method_4_code 54 = .ok (.l2i, 1) := by decide +kernel
theorem d27_55 : decode method_4_code 55 = .ok (.iadd, 1) := by decide +kernel
theorem d27_56 : decode method_4_code 56 = .ok (.i2c, 1) := by decide +kernel
theorem d27_57 : decode method_4_code 57 = .ok (.istore 7, 2) := by decide +kernel
theorem d27_7 : decode method_4_code 7 = .ok (.iconst 1, 1) := by decide +kernel
theorem d27_8 : decode method_4_code 8 = .ok (.ireturn, 1) := by decide +kernel
set_option maxRecDepth 65536 in
set_option maxHeartbeats 40000000 in
theorem own_c27 (l : Launch) (Z : State) (a0 : Array Value) (hw : ∀ d ∈ tables_1, d.before a0 Z = true) (cs : Int32) (fv gv : Value) (d1 d2 : Addr) (G : own_G Z cs fv gv d1 d2) (h0 : Heap) (n0 : Nat) (O0 : Old Z n0 h0) (n k : Nat) (hn : n < 2 ^ 63) (hk : own_dl n k) (ln : Nat) (hln : ln = k + (k - 1) / 3) (P : Addr) (AP : ArF Z h0 P .long 19 (fun j => .long (own_p j))) (t W : Addr) (HT : own_T Z h0 t W n0 ln (own_w n k)) (i : Nat) (hi : i < 2 ^ 31) :
    Con l Z (⟨"com/example/yuletally/yuletally/engine/DigitsGroupedPinLaw", "at", "(Ljava/lang/String;J[JII)Z"⟩ : MethodName) method_4_code 9 (some .boolean) [] ({ frames := 4, cells := 0, slots := 0, locals := 53 } : Room) 0 0 #[(.ref t), (.long (Int64.ofNat n)), (.ref P), (.int (Int32.ofNat ln)), (.int (Int32.ofNat i))] h0 (fun r h L => r = some (.int (1 : Int32)) ∧ h = h0 ∧ L = []) := by
  refine Con.of own_pn35 ?_
  intro pg ev s_ m bl mt cd s₁ hx hby hml hown hnm hret hlk hZ X0 e0
  rw [ef_27]
  show Gd _ _ _ _ (s₁.setTop (mkF m 0 #[.val (.ref t), .val (.long (Int64.ofNat n)), .second, .val (.ref P), .val (.int (Int32.ofNat ln)), .val (.int (Int32.ofNat i)), .unset, .unset, .unset] []))
  have k19 := hk.2.1
  have k1 := hk.1
  have ln25 : ln ≤ 25 := by omega
  refine Gd.go (fun _ w_k => XS.iload X0.here hx rfl (hb hby d27_0) rfl w_k) ?_
  show Gd _ _ _ _ (s₁.setTop (mkF m 2 #[.val (.ref t), .val (.long (Int64.ofNat n)), .second, .val (.ref P), .val (.int (Int32.ofNat ln)), .val (.int (Int32.ofNat i)), .unset, .unset, .unset] [(.int (Int32.ofNat i))]))
  refine Gd.go (fun _ w_k => XS.iload X0.here hx rfl (hb hby d27_2) rfl w_k) ?_
  show Gd _ _ _ _ (s₁.setTop (mkF m 4 #[.val (.ref t), .val (.long (Int64.ofNat n)), .second, .val (.ref P), .val (.int (Int32.ofNat ln)), .val (.int (Int32.ofNat i)), .unset, .unset, .unset] [(.int (Int32.ofNat ln)), (.int (Int32.ofNat i))]))
  by_cases hil : i < ln
  · refine Gd.go (fun _ w_k => XS.icmpYes X0.here hx rfl (pc0 := 4) (pc' := 9) rfl (hb hby d27_4) rfl (tlt (own_ltN hil (by omega))).1 (by decide) (by decide) w_k) ?_
    show Gd _ _ _ _ (s₁.setTop (mkF m 9 #[.val (.ref t), .val (.long (Int64.ofNat n)), .second, .val (.ref P), .val (.int (Int32.ofNat ln)), .val (.int (Int32.ofNat i)), .unset, .unset, .unset] []))
    obtain ⟨rr, hrr⟩ : ∃ q, q = ln - 1 - i := ⟨_, rfl⟩
    have r25 : rr < 25 := by omega
    refine Gd.go (fun _ w_k => XS.iload X0.here hx rfl (hb hby d27_9) rfl w_k) ?_
    show Gd _ _ _ _ (s₁.setTop (mkF m 11 #[.val (.ref t), .val (.long (Int64.ofNat n)), .second, .val (.ref P), .val (.int (Int32.ofNat ln)), .val (.int (Int32.ofNat i)), .unset, .unset, .unset] [(.int (Int32.ofNat ln))]))
    refine Gd.go (fun _ w_k => XS.iconst X0.here hx rfl (hb hby d27_11) w_k) ?_
    show Gd _ _ _ _ (s₁.setTop (mkF m 12 #[.val (.ref t), .val (.long (Int64.ofNat n)), .second, .val (.ref P), .val (.int (Int32.ofNat ln)), .val (.int (Int32.ofNat i)), .unset, .unset, .unset] [(.int (1 : Int32)), (.int (Int32.ofNat ln))]))
    refine Gd.go (fun _ w_k => XS.isub X0.here hx rfl (hb hby d27_12) rfl w_k) ?_
    show Gd _ _ _ _ (s₁.setTop (mkF m 13 #[.val (.ref t), .val (.long (Int64.ofNat n)), .second, .val (.ref P), .val (.int (Int32.ofNat ln)), .val (.int (Int32.ofNat i)), .unset, .unset, .unset] [(.int ((Int32.ofNat ln) - (1 : Int32)))]))
    refine Gd.go (fun _ w_k => XS.iload X0.here hx rfl (hb hby d27_13) rfl w_k) ?_
    show Gd _ _ _ _ (s₁.setTop (mkF m 15 #[.val (.ref t), .val (.long (Int64.ofNat n)), .second, .val (.ref P), .val (.int (Int32.ofNat ln)), .val (.int (Int32.ofNat i)), .unset, .unset, .unset] [(.int (Int32.ofNat i)), (.int ((Int32.ofNat ln) - (1 : Int32)))]))
    refine Gd.go (fun _ w_k => XS.isub X0.here hx rfl (hb hby d27_15) rfl w_k) ?_
    show Gd _ _ _ _ (s₁.setTop (mkF m 16 #[.val (.ref t), .val (.long (Int64.ofNat n)), .second, .val (.ref P), .val (.int (Int32.ofNat ln)), .val (.int (Int32.ofNat i)), .unset, .unset, .unset] [(.int (((Int32.ofNat ln) - (1 : Int32)) - (Int32.ofNat i)))]))
    rw [own_rE hil, ← hrr]
    show Gd _ _ _ _ (s₁.setTop (mkF m 16 #[.val (.ref t), .val (.long (Int64.ofNat n)), .second, .val (.ref P), .val (.int (Int32.ofNat ln)), .val (.int (Int32.ofNat i)), .unset, .unset, .unset] [(.int (Int32.ofNat rr))]))
    refine Gd.go (fun _ w_k => XS.istore X0.here hx rfl (hb hby d27_16) rfl (l' := #[.val (.ref t), .val (.long (Int64.ofNat n)), .second, .val (.ref P), .val (.int (Int32.ofNat ln)), .val (.int (Int32.ofNat i)), .val (.int (Int32.ofNat rr)), .unset, .unset]) rfl w_k) ?_
    show Gd _ _ _ _ (s₁.setTop (mkF m 18 #[.val (.ref t), .val (.long (Int64.ofNat n)), .second, .val (.ref P), .val (.int (Int32.ofNat ln)), .val (.int (Int32.ofNat i)), .val (.int (Int32.ofNat rr)), .unset, .unset] []))
    refine Gd.go (fun _ w_k => XS.iload X0.here hx rfl (hb hby d27_18) rfl w_k) ?_
    show Gd _ _ _ _ (s₁.setTop (mkF m 20 #[.val (.ref t), .val (.long (Int64.ofNat n)), .second, .val (.ref P), .val (.int (Int32.ofNat ln)), .val (.int (Int32.ofNat i)), .val (.int (Int32.ofNat rr)), .unset, .unset] [(.int (Int32.ofNat rr))]))
    refine Gd.go (fun _ w_k => XS.iconst X0.here hx rfl (hb hby d27_20) w_k) ?_
    show Gd _ _ _ _ (s₁.setTop (mkF m 21 #[.val (.ref t), .val (.long (Int64.ofNat n)), .second, .val (.ref P), .val (.int (Int32.ofNat ln)), .val (.int (Int32.ofNat i)), .val (.int (Int32.ofNat rr)), .unset, .unset] [(.int (4 : Int32)), (.int (Int32.ofNat rr))]))
    refine Gd.go (fun _ w_k => iremM (g := (mkF m 21 #[.val (.ref t), .val (.long (Int64.ofNat n)), .second, .val (.ref P), .val (.int (Int32.ofNat ln)), .val (.int (Int32.ofNat i)), .val (.int (Int32.ofNat rr)), .unset, .unset] [(.int (4 : Int32)), (.int (Int32.ofNat rr))])) X0 hx rfl (hb hby d27_21) rfl (by decide) w_k) ?_
    show Gd _ _ _ _ (s₁.setTop (mkF m 22 #[.val (.ref t), .val (.long (Int64.ofNat n)), .second, .val (.ref P), .val (.int (Int32.ofNat ln)), .val (.int (Int32.ofNat i)), .val (.int (Int32.ofNat rr)), .unset, .unset] [(.int ((Int32.ofNat rr) % (4 : Int32)))]))
    rw [own_rem4 (by omega)]
    show Gd _ _ _ _ (s₁.setTop (mkF m 22 #[.val (.ref t), .val (.long (Int64.ofNat n)), .second, .val (.ref P), .val (.int (Int32.ofNat ln)), .val (.int (Int32.ofNat i)), .val (.int (Int32.ofNat rr)), .unset, .unset] [(.int (Int32.ofNat (rr % 4)))]))
    refine Gd.go (fun _ w_k => XS.iconst X0.here hx rfl (hb hby d27_22) w_k) ?_
    show Gd _ _ _ _ (s₁.setTop (mkF m 23 #[.val (.ref t), .val (.long (Int64.ofNat n)), .second, .val (.ref P), .val (.int (Int32.ofNat ln)), .val (.int (Int32.ofNat i)), .val (.int (Int32.ofNat rr)), .unset, .unset] [(.int (3 : Int32)), (.int (Int32.ofNat (rr % 4)))]))
    by_cases q4 : rr % 4 = 3
    · refine Gd.go (fun _ w_k => XS.icmpNo X0.here hx rfl (hb hby d27_23) rfl (teq (congrArg Int32.ofNat q4)).2 w_k) ?_
      show Gd _ _ _ _ (s₁.setTop (mkF m 26 #[.val (.ref t), .val (.long (Int64.ofNat n)), .second, .val (.ref P), .val (.int (Int32.ofNat ln)), .val (.int (Int32.ofNat i)), .val (.int (Int32.ofNat rr)), .unset, .unset] []))
      refine Gd.go (fun _ w_k => XS.bipush X0.here hx rfl (hb hby d27_26) w_k) ?_
      show Gd _ _ _ _ (s₁.setTop (mkF m 28 #[.val (.ref t), .val (.long (Int64.ofNat n)), .second, .val (.ref P), .val (.int (Int32.ofNat ln)), .val (.int (Int32.ofNat i)), .val (.int (Int32.ofNat rr)), .unset, .unset] [(.int (44 : Int32))]))
      refine Gd.go (fun _ w_k => XS.istore X0.here hx rfl (hb hby d27_28) rfl (l' := #[.val (.ref t), .val (.long (Int64.ofNat n)), .second, .val (.ref P), .val (.int (Int32.ofNat ln)), .val (.int (Int32.ofNat i)), .val (.int (Int32.ofNat rr)), .val (.int (44 : Int32)), .unset]) rfl w_k) ?_
      show Gd _ _ _ _ (s₁.setTop (mkF m 30 #[.val (.ref t), .val (.long (Int64.ofNat n)), .second, .val (.ref P), .val (.int (Int32.ofNat ln)), .val (.int (Int32.ofNat i)), .val (.int (Int32.ofNat rr)), .val (.int (44 : Int32)), .unset] []))
      refine Gd.go (fun _ w_k => XS.goto X0.here hx rfl (pc0 := 30) (pc' := 59) rfl (hb hby d27_30) (by decide) (by decide) w_k) ?_
      show Gd _ _ _ _ (s₁.setTop (mkF m 59 #[.val (.ref t), .val (.long (Int64.ofNat n)), .second, .val (.ref P), .val (.int (Int32.ofNat ln)), .val (.int (Int32.ofNat i)), .val (.int (Int32.ofNat rr)), .val (.int (44 : Int32)), .unset] []))
      refine Gd.go (fun _ w_k => XS.aloadN X0.here hx rfl (hb hby d27_59) rfl rfl w_k) ?_
      show Gd _ _ _ _ (s₁.setTop (mkF m 60 #[.val (.ref t), .val (.long (Int64.ofNat n)), .second, .val (.ref P), .val (.int (Int32.ofNat ln)), .val (.int (Int32.ofNat i)), .val (.int (Int32.ofNat rr)), .val (.int (44 : Int32)), .unset] [(.ref t)]))
      refine Gd.go (fun _ w_k => XS.iload X0.here hx rfl (hb hby d27_60) rfl w_k) ?_
      show Gd _ _ _ _ (s₁.setTop (mkF m 62 #[.val (.ref t), .val (.long (Int64.ofNat n)), .second, .val (.ref P), .val (.int (Int32.ofNat ln)), .val (.int (Int32.ofNat i)), .val (.int (Int32.ofNat rr)), .val (.int (44 : Int32)), .unset] [(.int (Int32.ofNat i)), (.ref t)]))
      obtain ⟨T1, X1, e1, st1⟩ := own_callVP X0 hx hZ (C := "java/lang/String") (y := (⟨"java/lang/String", "charAt", "(I)C"⟩ : MethodName)) hown (hw _ (List.mem_of_getElem? (i := 185) rfl)) (hw _ (List.mem_of_getElem? (i := 186) rfl)) (hw _ (List.mem_of_getElem? (i := 188) rfl)) (hw _ (List.mem_of_getElem? (i := 187) rfl)) (hw _ (List.mem_of_getElem? (i := 37) rfl)) (hw _ (List.mem_of_getElem? (i := 189) rfl)) (by decide) HT.1 (W := 0) (own_c28 l Z a0 hw cs fv gv d1 d2 G h0 n0 O0 t W ln (own_w n k) HT i hil (own_wb n k i)) rfl rfl e0 (by decide) (by decide) (g := (mkF m 62 #[.val (.ref t), .val (.long (Int64.ofNat n)), .second, .val (.ref P), .val (.int (Int32.ofNat ln)), .val (.int (Int32.ofNat i)), .val (.int (Int32.ofNat rr)), .val (.int (44 : Int32)), .unset] [(.int (Int32.ofNat i)), (.ref t)])) rfl (by rw [hml]; rfl) (argsL := [(.int (Int32.ofNat i))]) (rest := []) (lenOf own_pd24 rfl) rfl (Nat.le_of_eq rfl) (hb hby d27_62) rfl
      refine Gd.go (fun _ w_k => st1 _ w_k) ?_
      show Gd _ _ _ _ (T1.setTop (mkF m 65 #[.val (.ref t), .val (.long (Int64.ofNat n)), .second, .val (.ref P), .val (.int (Int32.ofNat ln)), .val (.int (Int32.ofNat i)), .val (.int (Int32.ofNat rr)), .val (.int (44 : Int32)), .unset] [(.int (Int32.ofNat (own_w n k i)))]))
      refine Gd.go (fun _ w_k => XS.iload X1.here hx rfl (hb hby d27_65) rfl w_k) ?_
      show Gd _ _ _ _ (T1.setTop (mkF m 67 #[.val (.ref t), .val (.long (Int64.ofNat n)), .second, .val (.ref P), .val (.int (Int32.ofNat ln)), .val (.int (Int32.ofNat i)), .val (.int (Int32.ofNat rr)), .val (.int (44 : Int32)), .unset] [(.int (44 : Int32)), (.int (Int32.ofNat (own_w n k i)))]))
      have ew : own_w n k i = 44 := by unfold own_w; rw [← hln, ← hrr, if_pos q4]
      refine Gd.go (fun _ w_k => XS.icmpNo X1.here hx rfl (hb hby d27_67) rfl (teq (congrArg Int32.ofNat ew)).2 w_k) ?_
      show Gd _ _ _ _ (T1.setTop (mkF m 70 #[.val (.ref t), .val (.long (Int64.ofNat n)), .second, .val (.ref P), .val (.int (Int32.ofNat ln)), .val (.int (Int32.ofNat i)), .val (.int (Int32.ofNat rr)), .val (.int (44 : Int32)), .unset] []))
      refine Gd.go (fun _ w_k => XS.iconst X1.here hx rfl (hb hby d27_70) w_k) ?_
      show Gd _ _ _ _ (T1.setTop (mkF m 71 #[.val (.ref t), .val (.long (Int64.ofNat n)), .second, .val (.ref P), .val (.int (Int32.ofNat ln)), .val (.int (Int32.ofNat i)), .val (.int (Int32.ofNat rr)), .val (.int (44 : Int32)), .unset] [(.int (1 : Int32))]))
      refine Gd.go (fun _ w_k => XS.goto X1.here hx rfl (pc0 := 71) (pc' := 75) rfl (hb hby d27_71) (by decide) (by decide) w_k) ?_
      show Gd _ _ _ _ (T1.setTop (mkF m 75 #[.val (.ref t), .val (.long (Int64.ofNat n)), .second, .val (.ref P), .val (.int (Int32.ofNat ln)), .val (.int (Int32.ofNat i)), .val (.int (Int32.ofNat rr)), .val (.int (44 : Int32)), .unset] [(.int (1 : Int32))]))
      refine own_retN (t := .boolean) X1 hx hret hlk (by simp) (hb hby d27_75) ?_ (by decide) (by decide)
      exact ⟨rfl, e1, rfl⟩
    · refine Gd.go (fun _ w_k => XS.icmpYes X0.here hx rfl (pc0 := 23) (pc' := 33) rfl (hb hby d27_23) rfl (feq (fun q => q4 (by have e := congrArg Int32.toInt q; rw [own_ofN (by omega)] at e; have e3 : (3 : Int32).toInt = 3 := rfl; omega))).2 (by decide) (by decide) w_k) ?_
      show Gd _ _ _ _ (s₁.setTop (mkF m 33 #[.val (.ref t), .val (.long (Int64.ofNat n)), .second, .val (.ref P), .val (.int (Int32.ofNat ln)), .val (.int (Int32.ofNat i)), .val (.int (Int32.ofNat rr)), .unset, .unset] []))
      refine Gd.go (fun _ w_k => XS.iload X0.here hx rfl (hb hby d27_33) rfl w_k) ?_
      show Gd _ _ _ _ (s₁.setTop (mkF m 35 #[.val (.ref t), .val (.long (Int64.ofNat n)), .second, .val (.ref P), .val (.int (Int32.ofNat ln)), .val (.int (Int32.ofNat i)), .val (.int (Int32.ofNat rr)), .unset, .unset] [(.int (Int32.ofNat rr))]))
      refine Gd.go (fun _ w_k => XS.iload X0.here hx rfl (hb hby d27_35) rfl w_k) ?_
      show Gd _ _ _ _ (s₁.setTop (mkF m 37 #[.val (.ref t), .val (.long (Int64.ofNat n)), .second, .val (.ref P), .val (.int (Int32.ofNat ln)), .val (.int (Int32.ofNat i)), .val (.int (Int32.ofNat rr)), .unset, .unset] [(.int (Int32.ofNat rr)), (.int (Int32.ofNat rr))]))
      refine Gd.go (fun _ w_k => XS.iconst X0.here hx rfl (hb hby d27_37) w_k) ?_
      show Gd _ _ _ _ (s₁.setTop (mkF m 38 #[.val (.ref t), .val (.long (Int64.ofNat n)), .second, .val (.ref P), .val (.int (Int32.ofNat ln)), .val (.int (Int32.ofNat i)), .val (.int (Int32.ofNat rr)), .unset, .unset] [(.int (4 : Int32)), (.int (Int32.ofNat rr)), (.int (Int32.ofNat rr))]))
      refine Gd.go (fun _ w_k => XS.idiv X0.here hx rfl (hb hby d27_38) rfl (by decide) w_k) ?_
      show Gd _ _ _ _ (s₁.setTop (mkF m 39 #[.val (.ref t), .val (.long (Int64.ofNat n)), .second, .val (.ref P), .val (.int (Int32.ofNat ln)), .val (.int (Int32.ofNat i)), .val (.int (Int32.ofNat rr)), .unset, .unset] [(.int ((Int32.ofNat rr) / (4 : Int32))), (.int (Int32.ofNat rr))]))
      refine Gd.go (fun _ w_k => XS.isub X0.here hx rfl (hb hby d27_39) rfl w_k) ?_
      show Gd _ _ _ _ (s₁.setTop (mkF m 40 #[.val (.ref t), .val (.long (Int64.ofNat n)), .second, .val (.ref P), .val (.int (Int32.ofNat ln)), .val (.int (Int32.ofNat i)), .val (.int (Int32.ofNat rr)), .unset, .unset] [(.int ((Int32.ofNat rr) - ((Int32.ofNat rr) / (4 : Int32))))]))
      rw [own_jE (by omega)]
      show Gd _ _ _ _ (s₁.setTop (mkF m 40 #[.val (.ref t), .val (.long (Int64.ofNat n)), .second, .val (.ref P), .val (.int (Int32.ofNat ln)), .val (.int (Int32.ofNat i)), .val (.int (Int32.ofNat rr)), .unset, .unset] [(.int (Int32.ofNat (rr - rr / 4)))]))
      refine Gd.go (fun _ w_k => XS.istore X0.here hx rfl (hb hby d27_40) rfl (l' := #[.val (.ref t), .val (.long (Int64.ofNat n)), .second, .val (.ref P), .val (.int (Int32.ofNat ln)), .val (.int (Int32.ofNat i)), .val (.int (Int32.ofNat rr)), .unset, .val (.int (Int32.ofNat (rr - rr / 4)))]) rfl w_k) ?_
      show Gd _ _ _ _ (s₁.setTop (mkF m 42 #[.val (.ref t), .val (.long (Int64.ofNat n)), .second, .val (.ref P), .val (.int (Int32.ofNat ln)), .val (.int (Int32.ofNat i)), .val (.int (Int32.ofNat rr)), .unset, .val (.int (Int32.ofNat (rr - rr / 4)))] []))
      refine Gd.go (fun _ w_k => XS.bipush X0.here hx rfl (hb hby d27_42) w_k) ?_
      show Gd _ _ _ _ (s₁.setTop (mkF m 44 #[.val (.ref t), .val (.long (Int64.ofNat n)), .second, .val (.ref P), .val (.int (Int32.ofNat ln)), .val (.int (Int32.ofNat i)), .val (.int (Int32.ofNat rr)), .unset, .val (.int (Int32.ofNat (rr - rr / 4)))] [(.int (48 : Int32))]))
      refine Gd.go (fun _ w_k => XS.lloadN X0.here hx rfl (hb hby d27_44) rfl w_k) ?_
      show Gd _ _ _ _ (s₁.setTop (mkF m 45 #[.val (.ref t), .val (.long (Int64.ofNat n)), .second, .val (.ref P), .val (.int (Int32.ofNat ln)), .val (.int (Int32.ofNat i)), .val (.int (Int32.ofNat rr)), .unset, .val (.int (Int32.ofNat (rr - rr / 4)))] [(.long (Int64.ofNat n)), (.int (48 : Int32))]))
      refine Gd.go (fun _ w_k => XS.aloadN X0.here hx rfl (hb hby d27_45) rfl rfl w_k) ?_
      show Gd _ _ _ _ (s₁.setTop (mkF m 46 #[.val (.ref t), .val (.long (Int64.ofNat n)), .second, .val (.ref P), .val (.int (Int32.ofNat ln)), .val (.int (Int32.ofNat i)), .val (.int (Int32.ofNat rr)), .unset, .val (.int (Int32.ofNat (rr - rr / 4)))] [(.ref P), (.long (Int64.ofNat n)), (.int (48 : Int32))]))
      refine Gd.go (fun _ w_k => XS.iload X0.here hx rfl (hb hby d27_46) rfl w_k) ?_
      show Gd _ _ _ _ (s₁.setTop (mkF m 48 #[.val (.ref t), .val (.long (Int64.ofNat n)), .second, .val (.ref P), .val (.int (Int32.ofNat ln)), .val (.int (Int32.ofNat i)), .val (.int (Int32.ofNat rr)), .unset, .val (.int (Int32.ofNat (rr - rr / 4)))] [(.int (Int32.ofNat (rr - rr / 4))), (.ref P), (.long (Int64.ofNat n)), (.int (48 : Int32))]))
      refine Gd.go (fun _ w_k => own_ldJ X0 hx hZ e0 AP (j := (Int32.ofNat (rr - rr / 4))) (by rw [own_ofN (by omega)]; omega) (by rw [own_ofN (by omega)]; omega) (v := (.long (own_p (rr - rr / 4)))) (by rw [own_ofC (by omega)]) (g := (mkF m 48 #[.val (.ref t), .val (.long (Int64.ofNat n)), .second, .val (.ref P), .val (.int (Int32.ofNat ln)), .val (.int (Int32.ofNat i)), .val (.int (Int32.ofNat rr)), .unset, .val (.int (Int32.ofNat (rr - rr / 4)))] [(.int (Int32.ofNat (rr - rr / 4))), (.ref P), (.long (Int64.ofNat n)), (.int (48 : Int32))])) rfl rfl (hb hby d27_48) _ w_k) ?_
      show Gd _ _ _ _ (s₁.setTop (mkF m 49 #[.val (.ref t), .val (.long (Int64.ofNat n)), .second, .val (.ref P), .val (.int (Int32.ofNat ln)), .val (.int (Int32.ofNat i)), .val (.int (Int32.ofNat rr)), .unset, .val (.int (Int32.ofNat (rr - rr / 4)))] [(.long (own_p (rr - rr / 4))), (.long (Int64.ofNat n)), (.int (48 : Int32))]))
      refine Gd.go (fun _ w_k => XS.ldiv X0.here hx rfl (hb hby d27_49) rfl (own_pnz (by omega)) w_k) ?_
      show Gd _ _ _ _ (s₁.setTop (mkF m 50 #[.val (.ref t), .val (.long (Int64.ofNat n)), .second, .val (.ref P), .val (.int (Int32.ofNat ln)), .val (.int (Int32.ofNat i)), .val (.int (Int32.ofNat rr)), .unset, .val (.int (Int32.ofNat (rr - rr / 4)))] [(.long ((Int64.ofNat n) / (own_p (rr - rr / 4)))), (.int (48 : Int32))]))
      rw [own_divp hn (by omega)]
      show Gd _ _ _ _ (s₁.setTop (mkF m 50 #[.val (.ref t), .val (.long (Int64.ofNat n)), .second, .val (.ref P), .val (.int (Int32.ofNat ln)), .val (.int (Int32.ofNat i)), .val (.int (Int32.ofNat rr)), .unset, .val (.int (Int32.ofNat (rr - rr / 4)))] [(.long (Int64.ofNat (n / 10 ^ (rr - rr / 4)))), (.int (48 : Int32))]))
      refine Gd.go (fun _ w_k => X0.ldc2Long hx hown (mvT hZ (hw _ (List.mem_of_getElem? (i := 2) rfl))) (g := (mkF m 50 #[.val (.ref t), .val (.long (Int64.ofNat n)), .second, .val (.ref P), .val (.int (Int32.ofNat ln)), .val (.int (Int32.ofNat i)), .val (.int (Int32.ofNat rr)), .unset, .val (.int (Int32.ofNat (rr - rr / 4)))] [(.long (Int64.ofNat (n / 10 ^ (rr - rr / 4)))), (.int (48 : Int32))])) rfl (hb hby d27_50) _ w_k) ?_
      show Gd _ _ _ _ (s₁.setTop (mkF m 53 #[.val (.ref t), .val (.long (Int64.ofNat n)), .second, .val (.ref P), .val (.int (Int32.ofNat ln)), .val (.int (Int32.ofNat i)), .val (.int (Int32.ofNat rr)), .unset, .val (.int (Int32.ofNat (rr - rr / 4)))] [(.long (10 : Int64)), (.long (Int64.ofNat (n / 10 ^ (rr - rr / 4)))), (.int (48 : Int32))]))
      refine Gd.go (fun _ w_k => XS.lrem X0.here hx rfl (hb hby d27_53) rfl (by decide) w_k) ?_
      show Gd _ _ _ _ (s₁.setTop (mkF m 54 #[.val (.ref t), .val (.long (Int64.ofNat n)), .second, .val (.ref P), .val (.int (Int32.ofNat ln)), .val (.int (Int32.ofNat i)), .val (.int (Int32.ofNat rr)), .unset, .val (.int (Int32.ofNat (rr - rr / 4)))] [(.long ((Int64.ofNat (n / 10 ^ (rr - rr / 4))) - ((Int64.ofNat (n / 10 ^ (rr - rr / 4))) / (10 : Int64)) * (10 : Int64))), (.int (48 : Int32))]))
      rw [own_rem10 (Nat.lt_of_le_of_lt (Nat.div_le_self _ _) hn)]
      show Gd _ _ _ _ (s₁.setTop (mkF m 54 #[.val (.ref t), .val (.long (Int64.ofNat n)), .second, .val (.ref P), .val (.int (Int32.ofNat ln)), .val (.int (Int32.ofNat i)), .val (.int (Int32.ofNat rr)), .unset, .val (.int (Int32.ofNat (rr - rr / 4)))] [(.long (Int64.ofNat (n / 10 ^ (rr - rr / 4) % 10))), (.int (48 : Int32))]))
      refine Gd.go (fun _ w_k => XS.l2i X0.here hx rfl (hb hby d27_54) rfl w_k) ?_
      show Gd _ _ _ _ (s₁.setTop (mkF m 55 #[.val (.ref t), .val (.long (Int64.ofNat n)), .second, .val (.ref P), .val (.int (Int32.ofNat ln)), .val (.int (Int32.ofNat i)), .val (.int (Int32.ofNat rr)), .unset, .val (.int (Int32.ofNat (rr - rr / 4)))] [(.int ((Int64.ofNat (n / 10 ^ (rr - rr / 4) % 10)).toInt32)), (.int (48 : Int32))]))
      rw [own_l2iN (by omega)]
      show Gd _ _ _ _ (s₁.setTop (mkF m 55 #[.val (.ref t), .val (.long (Int64.ofNat n)), .second, .val (.ref P), .val (.int (Int32.ofNat ln)), .val (.int (Int32.ofNat i)), .val (.int (Int32.ofNat rr)), .unset, .val (.int (Int32.ofNat (rr - rr / 4)))] [(.int (Int32.ofNat (n / 10 ^ (rr - rr / 4) % 10))), (.int (48 : Int32))]))
      refine Gd.go (fun _ w_k => XS.iadd X0.here hx rfl (hb hby d27_55) rfl w_k) ?_
      show Gd _ _ _ _ (s₁.setTop (mkF m 56 #[.val (.ref t), .val (.long (Int64.ofNat n)), .second, .val (.ref P), .val (.int (Int32.ofNat ln)), .val (.int (Int32.ofNat i)), .val (.int (Int32.ofNat rr)), .unset, .val (.int (Int32.ofNat (rr - rr / 4)))] [(.int ((48 : Int32) + (Int32.ofNat (n / 10 ^ (rr - rr / 4) % 10))))]))
      rw [own_add48]
      show Gd _ _ _ _ (s₁.setTop (mkF m 56 #[.val (.ref t), .val (.long (Int64.ofNat n)), .second, .val (.ref P), .val (.int (Int32.ofNat ln)), .val (.int (Int32.ofNat i)), .val (.int (Int32.ofNat rr)), .unset, .val (.int (Int32.ofNat (rr - rr / 4)))] [(.int (Int32.ofNat (48 + n / 10 ^ (rr - rr / 4) % 10)))]))
      refine Gd.go (fun _ w_k => XS.i2c X0.here hx rfl (hb hby d27_56) rfl w_k) ?_
      show Gd _ _ _ _ (s₁.setTop (mkF m 57 #[.val (.ref t), .val (.long (Int64.ofNat n)), .second, .val (.ref P), .val (.int (Int32.ofNat ln)), .val (.int (Int32.ofNat i)), .val (.int (Int32.ofNat rr)), .unset, .val (.int (Int32.ofNat (rr - rr / 4)))] [(.int ((Int32.ofNat (48 + n / 10 ^ (rr - rr / 4) % 10)).toUInt32.toUInt16.toUInt32.toInt32))]))
      rw [show (Int32.ofNat (48 + n / 10 ^ (rr - rr / 4) % 10)).toUInt32.toUInt16.toUInt32.toInt32 = Int32.ofNat (48 + n / 10 ^ (rr - rr / 4) % 10) from (own_fit128 ⟨48 + n / 10 ^ (rr - rr / 4) % 10, by omega⟩).2.2.2]
      show Gd _ _ _ _ (s₁.setTop (mkF m 57 #[.val (.ref t), .val (.long (Int64.ofNat n)), .second, .val (.ref P), .val (.int (Int32.ofNat ln)), .val (.int (Int32.ofNat i)), .val (.int (Int32.ofNat rr)), .unset, .val (.int (Int32.ofNat (rr - rr / 4)))] [(.int (Int32.ofNat (48 + n / 10 ^ (rr - rr / 4) % 10)))]))
      refine Gd.go (fun _ w_k => XS.istore X0.here hx rfl (hb hby d27_57) rfl (l' := #[.val (.ref t), .val (.long (Int64.ofNat n)), .second, .val (.ref P), .val (.int (Int32.ofNat ln)), .val (.int (Int32.ofNat i)), .val (.int (Int32.ofNat rr)), .val (.int (Int32.ofNat (48 + n / 10 ^ (rr - rr / 4) % 10))), .val (.int (Int32.ofNat (rr - rr / 4)))]) rfl w_k) ?_
      show Gd _ _ _ _ (s₁.setTop (mkF m 59 #[.val (.ref t), .val (.long (Int64.ofNat n)), .second, .val (.ref P), .val (.int (Int32.ofNat ln)), .val (.int (Int32.ofNat i)), .val (.int (Int32.ofNat rr)), .val (.int (Int32.ofNat (48 + n / 10 ^ (rr - rr / 4) % 10))), .val (.int (Int32.ofNat (rr - rr / 4)))] []))
      refine Gd.go (fun _ w_k => XS.aloadN X0.here hx rfl (hb hby d27_59) rfl rfl w_k) ?_
      show Gd _ _ _ _ (s₁.setTop (mkF m 60 #[.val (.ref t), .val (.long (Int64.ofNat n)), .second, .val (.ref P), .val (.int (Int32.ofNat ln)), .val (.int (Int32.ofNat i)), .val (.int (Int32.ofNat rr)), .val (.int (Int32.ofNat (48 + n / 10 ^ (rr - rr / 4) % 10))), .val (.int (Int32.ofNat (rr - rr / 4)))] [(.ref t)]))
      refine Gd.go (fun _ w_k => XS.iload X0.here hx rfl (hb hby d27_60) rfl w_k) ?_
      show Gd _ _ _ _ (s₁.setTop (mkF m 62 #[.val (.ref t), .val (.long (Int64.ofNat n)), .second, .val (.ref P), .val (.int (Int32.ofNat ln)), .val (.int (Int32.ofNat i)), .val (.int (Int32.ofNat rr)), .val (.int (Int32.ofNat (48 + n / 10 ^ (rr - rr / 4) % 10))), .val (.int (Int32.ofNat (rr - rr / 4)))] [(.int (Int32.ofNat i)), (.ref t)]))
      obtain ⟨T2, X2, e2, st2⟩ := own_callVP X0 hx hZ (C := "java/lang/String") (y := (⟨"java/lang/String", "charAt", "(I)C"⟩ : MethodName)) hown (hw _ (List.mem_of_getElem? (i := 185) rfl)) (hw _ (List.mem_of_getElem? (i := 186) rfl)) (hw _ (List.mem_of_getElem? (i := 188) rfl)) (hw _ (List.mem_of_getElem? (i := 187) rfl)) (hw _ (List.mem_of_getElem? (i := 37) rfl)) (hw _ (List.mem_of_getElem? (i := 189) rfl)) (by decide) HT.1 (W := 0) (own_c28 l Z a0 hw cs fv gv d1 d2 G h0 n0 O0 t W ln (own_w n k) HT i hil (own_wb n k i)) rfl rfl e0 (by decide) (by decide) (g := (mkF m 62 #[.val (.ref t), .val (.long (Int64.ofNat n)), .second, .val (.ref P), .val (.int (Int32.ofNat ln)), .val (.int (Int32.ofNat i)), .val (.int (Int32.ofNat rr)), .val (.int (Int32.ofNat (48 + n / 10 ^ (rr - rr / 4) % 10))), .val (.int (Int32.ofNat (rr - rr / 4)))] [(.int (Int32.ofNat i)), (.ref t)])) rfl (by rw [hml]; rfl) (argsL := [(.int (Int32.ofNat i))]) (rest := []) (lenOf own_pd24 rfl) rfl (Nat.le_of_eq rfl) (hb hby d27_62) rfl
      refine Gd.go (fun _ w_k => st2 _ w_k) ?_
      show Gd _ _ _ _ (T2.setTop (mkF m 65 #[.val (.ref t), .val (.long (Int64.ofNat n)), .second, .val (.ref P), .val (.int (Int32.ofNat ln)), .val (.int (Int32.ofNat i)), .val (.int (Int32.ofNat rr)), .val (.int (Int32.ofNat (48 + n / 10 ^ (rr - rr / 4) % 10))), .val (.int (Int32.ofNat (rr - rr / 4)))] [(.int (Int32.ofNat (own_w n k i)))]))
      refine Gd.go (fun _ w_k => XS.iload X2.here hx rfl (hb hby d27_65) rfl w_k) ?_
      show Gd _ _ _ _ (T2.setTop (mkF m 67 #[.val (.ref t), .val (.long (Int64.ofNat n)), .second, .val (.ref P), .val (.int (Int32.ofNat ln)), .val (.int (Int32.ofNat i)), .val (.int (Int32.ofNat rr)), .val (.int (Int32.ofNat (48 + n / 10 ^ (rr - rr / 4) % 10))), .val (.int (Int32.ofNat (rr - rr / 4)))] [(.int (Int32.ofNat (48 + n / 10 ^ (rr - rr / 4) % 10))), (.int (Int32.ofNat (own_w n k i)))]))
      have ew : own_w n k i = 48 + n / 10 ^ (rr - rr / 4) % 10 := by unfold own_w; rw [← hln, ← hrr, if_neg q4]
      refine Gd.go (fun _ w_k => XS.icmpNo X2.here hx rfl (hb hby d27_67) rfl (teq (congrArg Int32.ofNat ew)).2 w_k) ?_
      show Gd _ _ _ _ (T2.setTop (mkF m 70 #[.val (.ref t), .val (.long (Int64.ofNat n)), .second, .val (.ref P), .val (.int (Int32.ofNat ln)), .val (.int (Int32.ofNat i)), .val (.int (Int32.ofNat rr)), .val (.int (Int32.ofNat (48 + n / 10 ^ (rr - rr / 4) % 10))), .val (.int (Int32.ofNat (rr - rr / 4)))] []))
      refine Gd.go (fun _ w_k => XS.iconst X2.here hx rfl (hb hby d27_70) w_k) ?_
      show Gd _ _ _ _ (T2.setTop (mkF m 71 #[.val (.ref t), .val (.long (Int64.ofNat n)), .second, .val (.ref P), .val (.int (Int32.ofNat ln)), .val (.int (Int32.ofNat i)), .val (.int (Int32.ofNat rr)), .val (.int (Int32.ofNat (48 + n / 10 ^ (rr - rr / 4) % 10))), .val (.int (Int32.ofNat (rr - rr / 4)))] [(.int (1 : Int32))]))
      refine Gd.go (fun _ w_k => XS.goto X2.here hx rfl (pc0 := 71) (pc' := 75) rfl (hb hby d27_71) (by decide) (by decide) w_k) ?_
      show Gd _ _ _ _ (T2.setTop (mkF m 75 #[.val (.ref t), .val (.long (Int64.ofNat n)), .second, .val (.ref P), .val (.int (Int32.ofNat ln)), .val (.int (Int32.ofNat i)), .val (.int (Int32.ofNat rr)), .val (.int (Int32.ofNat (48 + n / 10 ^ (rr - rr / 4) % 10))), .val (.int (Int32.ofNat (rr - rr / 4)))] [(.int (1 : Int32))]))
      refine own_retN (t := .boolean) X2 hx hret hlk (by simp) (hb hby d27_75) ?_ (by decide) (by decide)
      exact ⟨rfl, e2, rfl⟩
  · refine Gd.go (fun _ w_k => XS.icmpNo X0.here hx rfl (hb hby d27_4) rfl (flt (own_geN hil hi)).1 w_k) ?_
    show Gd _ _ _ _ (s₁.setTop (mkF m 7 #[.val (.ref t), .val (.long (Int64.ofNat n)), .second, .val (.ref P), .val (.int (Int32.ofNat ln)), .val (.int (Int32.ofNat i)), .unset, .unset, .unset] []))
    refine Gd.go (fun _ w_k => XS.iconst X0.here hx rfl (hb hby d27_7) w_k) ?_
    show Gd _ _ _ _ (s₁.setTop (mkF m 8 #[.val (.ref t), .val (.long (Int64.ofNat n)), .second, .val (.ref P), .val (.int (Int32.ofNat ln)), .val (.int (Int32.ofNat i)), .unset, .unset, .unset] [(.int (1 : Int32))]))
    refine own_retN (t := .boolean) X0 hx hret hlk (by simp) (hb hby d27_8) ?_ (by decide) (by decide)
    exact ⟨rfl, e0, rfl⟩
theorem own_x (xx : Int64) (q : Int32) : ∃ n, n < 2 ^ 63 ∧ (((xx &&& (9223372036854775807 : Int64)).toUInt64 >>> ((q &&& (63 : Int32)) &&& 0x3f).toInt64.toUInt64).toInt64) = Int64.ofNat n := by
  have h := c_maskL xx 9223372036854775807 63 (by decide) (by decide +kernel)
  generalize (xx &&& (9223372036854775807 : Int64)) = y at h ⊢
  have hy : 0 ≤ y.toInt := by omega
  generalize ((q &&& (63 : Int32)) &&& 0x3f).toInt64.toUInt64 = u
  have e1 : y.toUInt64.toNat < 2 ^ 63 := by
    have e : y.toInt = y.toBitVec.toInt := rfl
    have e2 : y.toUInt64.toNat = y.toBitVec.toNat := rfl
    rw [e, BitVec.toInt_eq_toNat_cond] at hy
    have := y.toBitVec.isLt
    rw [e2]
    split at hy <;> omega
  have e2 : (y.toUInt64 >>> u).toNat < 2 ^ 63 := by
    rw [UInt64.toNat_shiftRight]
    exact Nat.lt_of_le_of_lt (by rw [Nat.shiftRight_eq_div_pow]; exact Nat.div_le_self _ _) e1
  generalize y.toUInt64 >>> u = v at e2
  refine ⟨v.toNat, e2, Int64.toInt_inj.mp ?_⟩
  rw [own_i64 e2]
  show v.toBitVec.toInt = _
  rw [BitVec.toInt_eq_toNat_cond]
  have e3 : v.toBitVec.toNat = v.toNat := rfl
  rw [e3]
  split <;> omega
theorem own_pn36 : plainFor x = true := by first | exact plainFor_of_name (by first | (simp [plainName, overriddenIn, x]; done) | decide +kernel) | decide +kernel
theorem ef_0 (m : MethodId) (q0 : Int64) (q1 : Int32) : entryFrame m #[(.long q0), (.int q1)] maxLocals = mkF m 0 #[.val (.long q0), .second, .val (.int q1), .unset, .unset, .unset, .unset, .unset, .unset] [] := by first | (simp [entryFrame, mkF, argsToLocals, Value.category, maxLocals]; done) | rfl
theorem own_pd25 : parseMethodDescriptor "(J[J)I" = some ⟨[.long, (.array .long)], some .int⟩ := by decide +kernel
theorem own_pd26 : parseMethodDescriptor "(Ljava/lang/String;J[JII)Z" = some ⟨[(.object "java/lang/String"), .long, (.array .long), .int, .int], some .boolean⟩ := by decide +kernel
set_option maxRecDepth 65536 in
set_option maxHeartbeats 40000000 in
theorem own_law (l : Launch) (Z : State) (a0 : Array Value) (hw : ∀ d ∈ tables_1, d.before a0 Z = true) (xx : Int64) (sh : Int32) (cs : Int32) (fv gv : Value) (d1 d2 : Addr) (G : own_G Z cs fv gv d1 d2) (h0 : Heap) (n0 : Nat) (O0 : Old Z n0 h0) (Z0 : n0 ≤ h0.size) :
    Con l Z x code maxLocals ret tables_1 room_1 24 320 #[(.long xx), (.int sh)] h0 (fun v h L => v = some (.int 1) ∧ Fr n0 L) := by
  refine Con.of own_pn36 ?_
  intro pg ev s_ m bl mt cd s₁ hx hby hml hown hnm hret hlk hZ X0 e0
  rw [ef_0]
  show Gd _ _ _ _ (s₁.setTop (mkF m 0 #[.val (.long xx), .second, .val (.int sh), .unset, .unset, .unset, .unset, .unset, .unset] []))
  have N0 := Fr.nil n0
  refine Gd.go (fun _ w_k => XS.lloadN X0.here hx rfl (hb hby at_0) rfl w_k) ?_
  show Gd _ _ _ _ (s₁.setTop (mkF m 1 #[.val (.long xx), .second, .val (.int sh), .unset, .unset, .unset, .unset, .unset, .unset] [(.long xx)]))
  refine Gd.go (fun _ w_k => X0.ldc2Long hx hown (mvT hZ (hw _ (List.mem_of_getElem? (i := 0) rfl))) (g := (mkF m 1 #[.val (.long xx), .second, .val (.int sh), .unset, .unset, .unset, .unset, .unset, .unset] [(.long xx)])) rfl (hb hby at_1) _ w_k) ?_
  show Gd _ _ _ _ (s₁.setTop (mkF m 4 #[.val (.long xx), .second, .val (.int sh), .unset, .unset, .unset, .unset, .unset, .unset] [(.long (9223372036854775807 : Int64)), (.long xx)]))
  refine Gd.go (fun _ w_k => XS.land X0.here hx rfl (hb hby at_4) rfl w_k) ?_
  show Gd _ _ _ _ (s₁.setTop (mkF m 5 #[.val (.long xx), .second, .val (.int sh), .unset, .unset, .unset, .unset, .unset, .unset] [(.long (xx &&& (9223372036854775807 : Int64)))]))
  refine Gd.go (fun _ w_k => XS.iloadN X0.here hx rfl (hb hby at_5) rfl w_k) ?_
  show Gd _ _ _ _ (s₁.setTop (mkF m 6 #[.val (.long xx), .second, .val (.int sh), .unset, .unset, .unset, .unset, .unset, .unset] [(.int sh), (.long (xx &&& (9223372036854775807 : Int64)))]))
  refine Gd.go (fun _ w_k => XS.bipush X0.here hx rfl (hb hby at_6) w_k) ?_
  show Gd _ _ _ _ (s₁.setTop (mkF m 8 #[.val (.long xx), .second, .val (.int sh), .unset, .unset, .unset, .unset, .unset, .unset] [(.int (63 : Int32)), (.int sh), (.long (xx &&& (9223372036854775807 : Int64)))]))
  refine Gd.go (fun _ w_k => XS.iand X0.here hx rfl (hb hby at_8) rfl w_k) ?_
  show Gd _ _ _ _ (s₁.setTop (mkF m 9 #[.val (.long xx), .second, .val (.int sh), .unset, .unset, .unset, .unset, .unset, .unset] [(.int (sh &&& (63 : Int32))), (.long (xx &&& (9223372036854775807 : Int64)))]))
  refine Gd.go (fun _ w_k => XS.lushr X0.here hx rfl (hb hby at_9) rfl w_k) ?_
  show Gd _ _ _ _ (s₁.setTop (mkF m 10 #[.val (.long xx), .second, .val (.int sh), .unset, .unset, .unset, .unset, .unset, .unset] [(.long (((xx &&& (9223372036854775807 : Int64)).toUInt64 >>> ((sh &&& (63 : Int32)) &&& 0x3f).toInt64.toUInt64).toInt64))]))
  obtain ⟨n, hn, en⟩ := own_x xx sh
  rw [en]
  obtain ⟨k, hk⟩ := own_len_ex hn
  have hk19 := hk.2.1
  have hk1 := hk.1
  show Gd _ _ _ _ (s₁.setTop (mkF m 10 #[.val (.long xx), .second, .val (.int sh), .unset, .unset, .unset, .unset, .unset, .unset] [(.long (Int64.ofNat n))]))
  refine Gd.go (fun _ w_k => XS.lstoreN X0.here hx rfl (hb hby at_10) rfl (l' := #[.val (.long xx), .second, .val (.int sh), .val (.long (Int64.ofNat n)), .second, .unset, .unset, .unset, .unset]) rfl w_k) ?_
  show Gd _ _ _ _ (s₁.setTop (mkF m 11 #[.val (.long xx), .second, .val (.int sh), .val (.long (Int64.ofNat n)), .second, .unset, .unset, .unset, .unset] []))
  refine Gd.go (fun _ w_k => XS.bipush X0.here hx rfl (hb hby at_11) w_k) ?_
  show Gd _ _ _ _ (s₁.setTop (mkF m 13 #[.val (.long xx), .second, .val (.int sh), .val (.long (Int64.ofNat n)), .second, .unset, .unset, .unset, .unset] [(.int (19 : Int32))]))
  obtain ⟨T1, h1, k1, X1, e1, E1, A1, st1⟩ := newP X0 hx hZ (hw _ (List.mem_of_getElem? (i := 1) rfl)) e0 (g := (mkF m 13 #[.val (.long xx), .second, .val (.int sh), .val (.long (Int64.ofNat n)), .second, .unset, .unset, .unset, .unset] [(.int (19 : Int32))])) rfl (hb hby at_13) rfl (by decide) (cap := 19) (by decide) (by decide) (by decide) (by decide)
  obtain ⟨b1, g1⟩ : ∃ z, z = h0.size := ⟨_, rfl⟩
  rw [← g1] at A1 st1
  have n0_b1 : n0 ≤ b1 := Nat.le_trans Z0 (Nat.le_of_eq g1.symm)
  have xO2 := Old.ext O0 E1
  have xZs3 := Nat.le_trans Z0 E1.1
  have xF4 : ArF Z h1 b1 .long 19 (fun _ => (.long (0 : Int64))) := own_new (h := h0) A1 (by decide)
  refine Gd.go (fun _ w_k => st1 _ w_k) ?_
  show Gd _ _ _ _ (T1.setTop (mkF m 15 #[.val (.long xx), .second, .val (.int sh), .val (.long (Int64.ofNat n)), .second, .unset, .unset, .unset, .unset] [(.ref b1)]))
  refine Gd.go (fun _ w_k => XS.dup X1.here hx rfl (hb hby at_15) rfl rfl w_k) ?_
  show Gd _ _ _ _ (T1.setTop (mkF m 16 #[.val (.long xx), .second, .val (.int sh), .val (.long (Int64.ofNat n)), .second, .unset, .unset, .unset, .unset] [(.ref b1), (.ref b1)]))
  refine Gd.go (fun _ w_k => XS.iconst X1.here hx rfl (hb hby at_16) w_k) ?_
  show Gd _ _ _ _ (T1.setTop (mkF m 17 #[.val (.long xx), .second, .val (.int sh), .val (.long (Int64.ofNat n)), .second, .unset, .unset, .unset, .unset] [(.int (0 : Int32)), (.ref b1), (.ref b1)]))
  refine Gd.go (fun _ w_k => XS.lconst X1.here hx rfl (hb hby at_17) w_k) ?_
  show Gd _ _ _ _ (T1.setTop (mkF m 18 #[.val (.long xx), .second, .val (.int sh), .val (.long (Int64.ofNat n)), .second, .unset, .unset, .unset, .unset] [(.long (1 : Int64)), (.int (0 : Int32)), (.ref b1), (.ref b1)]))
  obtain ⟨T5, h5, X5, e5, W5, st5⟩ := own_stJ X1 hx hZ e1 xF4 (j := (0 : Int32)) (by decide) (by decide) (g := (mkF m 18 #[.val (.long xx), .second, .val (.int sh), .val (.long (Int64.ofNat n)), .second, .unset, .unset, .unset, .unset] [(.long (1 : Int64)), (.int (0 : Int32)), (.ref b1), (.ref b1)])) rfl rfl (hb hby at_18)
  refine Gd.go (fun _ w_k => st5 _ w_k) ?_
  have xF6 := xF4.set W5
  have xN7 := Fr.snoc X5 N0 n0_b1
  have xO8 := Old.wr xO2 W5 n0_b1
  have xZs9 := Nat.le_trans xZs3 (Keep.of_wr W5).1
  show Gd _ _ _ _ (T5.setTop (mkF m 19 #[.val (.long xx), .second, .val (.int sh), .val (.long (Int64.ofNat n)), .second, .unset, .unset, .unset, .unset] [(.ref b1)]))
  refine Gd.go (fun _ w_k => XS.dup X5.here hx rfl (hb hby at_19) rfl rfl w_k) ?_
  show Gd _ _ _ _ (T5.setTop (mkF m 20 #[.val (.long xx), .second, .val (.int sh), .val (.long (Int64.ofNat n)), .second, .unset, .unset, .unset, .unset] [(.ref b1), (.ref b1)]))
  refine Gd.go (fun _ w_k => XS.iconst X5.here hx rfl (hb hby at_20) w_k) ?_
  show Gd _ _ _ _ (T5.setTop (mkF m 21 #[.val (.long xx), .second, .val (.int sh), .val (.long (Int64.ofNat n)), .second, .unset, .unset, .unset, .unset] [(.int (1 : Int32)), (.ref b1), (.ref b1)]))
  refine Gd.go (fun _ w_k => X5.ldc2Long hx hown (mvT hZ (hw _ (List.mem_of_getElem? (i := 2) rfl))) (g := (mkF m 21 #[.val (.long xx), .second, .val (.int sh), .val (.long (Int64.ofNat n)), .second, .unset, .unset, .unset, .unset] [(.int (1 : Int32)), (.ref b1), (.ref b1)])) rfl (hb hby at_21) _ w_k) ?_
  show Gd _ _ _ _ (T5.setTop (mkF m 24 #[.val (.long xx), .second, .val (.int sh), .val (.long (Int64.ofNat n)), .second, .unset, .unset, .unset, .unset] [(.long (10 : Int64)), (.int (1 : Int32)), (.ref b1), (.ref b1)]))
  obtain ⟨T10, h10, X10, e10, W10, st10⟩ := own_stJ X5 hx hZ e5 xF6 (j := (1 : Int32)) (by decide) (by decide) (g := (mkF m 24 #[.val (.long xx), .second, .val (.int sh), .val (.long (Int64.ofNat n)), .second, .unset, .unset, .unset, .unset] [(.long (10 : Int64)), (.int (1 : Int32)), (.ref b1), (.ref b1)])) rfl rfl (hb hby at_24)
  refine Gd.go (fun _ w_k => st10 _ w_k) ?_
  have xF11 := xF6.set W10
  have xN12 := Fr.snoc X10 xN7 n0_b1
  have xO13 := Old.wr xO8 W10 n0_b1
  have xZs14 := Nat.le_trans xZs9 (Keep.of_wr W10).1
  show Gd _ _ _ _ (T10.setTop (mkF m 25 #[.val (.long xx), .second, .val (.int sh), .val (.long (Int64.ofNat n)), .second, .unset, .unset, .unset, .unset] [(.ref b1)]))
  refine Gd.go (fun _ w_k => XS.dup X10.here hx rfl (hb hby at_25) rfl rfl w_k) ?_
  show Gd _ _ _ _ (T10.setTop (mkF m 26 #[.val (.long xx), .second, .val (.int sh), .val (.long (Int64.ofNat n)), .second, .unset, .unset, .unset, .unset] [(.ref b1), (.ref b1)]))
  refine Gd.go (fun _ w_k => XS.iconst X10.here hx rfl (hb hby at_26) w_k) ?_
  show Gd _ _ _ _ (T10.setTop (mkF m 27 #[.val (.long xx), .second, .val (.int sh), .val (.long (Int64.ofNat n)), .second, .unset, .unset, .unset, .unset] [(.int (2 : Int32)), (.ref b1), (.ref b1)]))
  refine Gd.go (fun _ w_k => X10.ldc2Long hx hown (mvT hZ (hw _ (List.mem_of_getElem? (i := 3) rfl))) (g := (mkF m 27 #[.val (.long xx), .second, .val (.int sh), .val (.long (Int64.ofNat n)), .second, .unset, .unset, .unset, .unset] [(.int (2 : Int32)), (.ref b1), (.ref b1)])) rfl (hb hby at_27) _ w_k) ?_
  show Gd _ _ _ _ (T10.setTop (mkF m 30 #[.val (.long xx), .second, .val (.int sh), .val (.long (Int64.ofNat n)), .second, .unset, .unset, .unset, .unset] [(.long (100 : Int64)), (.int (2 : Int32)), (.ref b1), (.ref b1)]))
  obtain ⟨T15, h15, X15, e15, W15, st15⟩ := own_stJ X10 hx hZ e10 xF11 (j := (2 : Int32)) (by decide) (by decide) (g := (mkF m 30 #[.val (.long xx), .second, .val (.int sh), .val (.long (Int64.ofNat n)), .second, .unset, .unset, .unset, .unset] [(.long (100 : Int64)), (.int (2 : Int32)), (.ref b1), (.ref b1)])) rfl rfl (hb hby at_30)
  refine Gd.go (fun _ w_k => st15 _ w_k) ?_
  have xF16 := xF11.set W15
  have xN17 := Fr.snoc X15 xN12 n0_b1
  have xO18 := Old.wr xO13 W15 n0_b1
  have xZs19 := Nat.le_trans xZs14 (Keep.of_wr W15).1
  show Gd _ _ _ _ (T15.setTop (mkF m 31 #[.val (.long xx), .second, .val (.int sh), .val (.long (Int64.ofNat n)), .second, .unset, .unset, .unset, .unset] [(.ref b1)]))
  refine Gd.go (fun _ w_k => XS.dup X15.here hx rfl (hb hby at_31) rfl rfl w_k) ?_
  show Gd _ _ _ _ (T15.setTop (mkF m 32 #[.val (.long xx), .second, .val (.int sh), .val (.long (Int64.ofNat n)), .second, .unset, .unset, .unset, .unset] [(.ref b1), (.ref b1)]))
  refine Gd.go (fun _ w_k => XS.iconst X15.here hx rfl (hb hby at_32) w_k) ?_
  show Gd _ _ _ _ (T15.setTop (mkF m 33 #[.val (.long xx), .second, .val (.int sh), .val (.long (Int64.ofNat n)), .second, .unset, .unset, .unset, .unset] [(.int (3 : Int32)), (.ref b1), (.ref b1)]))
  refine Gd.go (fun _ w_k => X15.ldc2Long hx hown (mvT hZ (hw _ (List.mem_of_getElem? (i := 4) rfl))) (g := (mkF m 33 #[.val (.long xx), .second, .val (.int sh), .val (.long (Int64.ofNat n)), .second, .unset, .unset, .unset, .unset] [(.int (3 : Int32)), (.ref b1), (.ref b1)])) rfl (hb hby at_33) _ w_k) ?_
  show Gd _ _ _ _ (T15.setTop (mkF m 36 #[.val (.long xx), .second, .val (.int sh), .val (.long (Int64.ofNat n)), .second, .unset, .unset, .unset, .unset] [(.long (1000 : Int64)), (.int (3 : Int32)), (.ref b1), (.ref b1)]))
  obtain ⟨T20, h20, X20, e20, W20, st20⟩ := own_stJ X15 hx hZ e15 xF16 (j := (3 : Int32)) (by decide) (by decide) (g := (mkF m 36 #[.val (.long xx), .second, .val (.int sh), .val (.long (Int64.ofNat n)), .second, .unset, .unset, .unset, .unset] [(.long (1000 : Int64)), (.int (3 : Int32)), (.ref b1), (.ref b1)])) rfl rfl (hb hby at_36)
  refine Gd.go (fun _ w_k => st20 _ w_k) ?_
  have xF21 := xF16.set W20
  have xN22 := Fr.snoc X20 xN17 n0_b1
  have xO23 := Old.wr xO18 W20 n0_b1
  have xZs24 := Nat.le_trans xZs19 (Keep.of_wr W20).1
  show Gd _ _ _ _ (T20.setTop (mkF m 37 #[.val (.long xx), .second, .val (.int sh), .val (.long (Int64.ofNat n)), .second, .unset, .unset, .unset, .unset] [(.ref b1)]))
  refine Gd.go (fun _ w_k => XS.dup X20.here hx rfl (hb hby at_37) rfl rfl w_k) ?_
  show Gd _ _ _ _ (T20.setTop (mkF m 38 #[.val (.long xx), .second, .val (.int sh), .val (.long (Int64.ofNat n)), .second, .unset, .unset, .unset, .unset] [(.ref b1), (.ref b1)]))
  refine Gd.go (fun _ w_k => XS.iconst X20.here hx rfl (hb hby at_38) w_k) ?_
  show Gd _ _ _ _ (T20.setTop (mkF m 39 #[.val (.long xx), .second, .val (.int sh), .val (.long (Int64.ofNat n)), .second, .unset, .unset, .unset, .unset] [(.int (4 : Int32)), (.ref b1), (.ref b1)]))
  refine Gd.go (fun _ w_k => X20.ldc2Long hx hown (mvT hZ (hw _ (List.mem_of_getElem? (i := 5) rfl))) (g := (mkF m 39 #[.val (.long xx), .second, .val (.int sh), .val (.long (Int64.ofNat n)), .second, .unset, .unset, .unset, .unset] [(.int (4 : Int32)), (.ref b1), (.ref b1)])) rfl (hb hby at_39) _ w_k) ?_
  show Gd _ _ _ _ (T20.setTop (mkF m 42 #[.val (.long xx), .second, .val (.int sh), .val (.long (Int64.ofNat n)), .second, .unset, .unset, .unset, .unset] [(.long (10000 : Int64)), (.int (4 : Int32)), (.ref b1), (.ref b1)]))
  obtain ⟨T25, h25, X25, e25, W25, st25⟩ := own_stJ X20 hx hZ e20 xF21 (j := (4 : Int32)) (by decide) (by decide) (g := (mkF m 42 #[.val (.long xx), .second, .val (.int sh), .val (.long (Int64.ofNat n)), .second, .unset, .unset, .unset, .unset] [(.long (10000 : Int64)), (.int (4 : Int32)), (.ref b1), (.ref b1)])) rfl rfl (hb hby at_42)
  refine Gd.go (fun _ w_k => st25 _ w_k) ?_
  have xF26 := xF21.set W25
  have xN27 := Fr.snoc X25 xN22 n0_b1
  have xO28 := Old.wr xO23 W25 n0_b1
  have xZs29 := Nat.le_trans xZs24 (Keep.of_wr W25).1
  show Gd _ _ _ _ (T25.setTop (mkF m 43 #[.val (.long xx), .second, .val (.int sh), .val (.long (Int64.ofNat n)), .second, .unset, .unset, .unset, .unset] [(.ref b1)]))
  refine Gd.go (fun _ w_k => XS.dup X25.here hx rfl (hb hby at_43) rfl rfl w_k) ?_
  show Gd _ _ _ _ (T25.setTop (mkF m 44 #[.val (.long xx), .second, .val (.int sh), .val (.long (Int64.ofNat n)), .second, .unset, .unset, .unset, .unset] [(.ref b1), (.ref b1)]))
  refine Gd.go (fun _ w_k => XS.iconst X25.here hx rfl (hb hby at_44) w_k) ?_
  show Gd _ _ _ _ (T25.setTop (mkF m 45 #[.val (.long xx), .second, .val (.int sh), .val (.long (Int64.ofNat n)), .second, .unset, .unset, .unset, .unset] [(.int (5 : Int32)), (.ref b1), (.ref b1)]))
  refine Gd.go (fun _ w_k => X25.ldc2Long hx hown (mvT hZ (hw _ (List.mem_of_getElem? (i := 6) rfl))) (g := (mkF m 45 #[.val (.long xx), .second, .val (.int sh), .val (.long (Int64.ofNat n)), .second, .unset, .unset, .unset, .unset] [(.int (5 : Int32)), (.ref b1), (.ref b1)])) rfl (hb hby at_45) _ w_k) ?_
  show Gd _ _ _ _ (T25.setTop (mkF m 48 #[.val (.long xx), .second, .val (.int sh), .val (.long (Int64.ofNat n)), .second, .unset, .unset, .unset, .unset] [(.long (100000 : Int64)), (.int (5 : Int32)), (.ref b1), (.ref b1)]))
  obtain ⟨T30, h30, X30, e30, W30, st30⟩ := own_stJ X25 hx hZ e25 xF26 (j := (5 : Int32)) (by decide) (by decide) (g := (mkF m 48 #[.val (.long xx), .second, .val (.int sh), .val (.long (Int64.ofNat n)), .second, .unset, .unset, .unset, .unset] [(.long (100000 : Int64)), (.int (5 : Int32)), (.ref b1), (.ref b1)])) rfl rfl (hb hby at_48)
  refine Gd.go (fun _ w_k => st30 _ w_k) ?_
  have xF31 := xF26.set W30
  have xN32 := Fr.snoc X30 xN27 n0_b1
  have xO33 := Old.wr xO28 W30 n0_b1
  have xZs34 := Nat.le_trans xZs29 (Keep.of_wr W30).1
  show Gd _ _ _ _ (T30.setTop (mkF m 49 #[.val (.long xx), .second, .val (.int sh), .val (.long (Int64.ofNat n)), .second, .unset, .unset, .unset, .unset] [(.ref b1)]))
  refine Gd.go (fun _ w_k => XS.dup X30.here hx rfl (hb hby at_49) rfl rfl w_k) ?_
  show Gd _ _ _ _ (T30.setTop (mkF m 50 #[.val (.long xx), .second, .val (.int sh), .val (.long (Int64.ofNat n)), .second, .unset, .unset, .unset, .unset] [(.ref b1), (.ref b1)]))
  refine Gd.go (fun _ w_k => XS.bipush X30.here hx rfl (hb hby at_50) w_k) ?_
  show Gd _ _ _ _ (T30.setTop (mkF m 52 #[.val (.long xx), .second, .val (.int sh), .val (.long (Int64.ofNat n)), .second, .unset, .unset, .unset, .unset] [(.int (6 : Int32)), (.ref b1), (.ref b1)]))
  refine Gd.go (fun _ w_k => X30.ldc2Long hx hown (mvT hZ (hw _ (List.mem_of_getElem? (i := 7) rfl))) (g := (mkF m 52 #[.val (.long xx), .second, .val (.int sh), .val (.long (Int64.ofNat n)), .second, .unset, .unset, .unset, .unset] [(.int (6 : Int32)), (.ref b1), (.ref b1)])) rfl (hb hby at_52) _ w_k) ?_
  show Gd _ _ _ _ (T30.setTop (mkF m 55 #[.val (.long xx), .second, .val (.int sh), .val (.long (Int64.ofNat n)), .second, .unset, .unset, .unset, .unset] [(.long (1000000 : Int64)), (.int (6 : Int32)), (.ref b1), (.ref b1)]))
  obtain ⟨T35, h35, X35, e35, W35, st35⟩ := own_stJ X30 hx hZ e30 xF31 (j := (6 : Int32)) (by decide) (by decide) (g := (mkF m 55 #[.val (.long xx), .second, .val (.int sh), .val (.long (Int64.ofNat n)), .second, .unset, .unset, .unset, .unset] [(.long (1000000 : Int64)), (.int (6 : Int32)), (.ref b1), (.ref b1)])) rfl rfl (hb hby at_55)
  refine Gd.go (fun _ w_k => st35 _ w_k) ?_
  have xF36 := xF31.set W35
  have xN37 := Fr.snoc X35 xN32 n0_b1
  have xO38 := Old.wr xO33 W35 n0_b1
  have xZs39 := Nat.le_trans xZs34 (Keep.of_wr W35).1
  show Gd _ _ _ _ (T35.setTop (mkF m 56 #[.val (.long xx), .second, .val (.int sh), .val (.long (Int64.ofNat n)), .second, .unset, .unset, .unset, .unset] [(.ref b1)]))
  refine Gd.go (fun _ w_k => XS.dup X35.here hx rfl (hb hby at_56) rfl rfl w_k) ?_
  show Gd _ _ _ _ (T35.setTop (mkF m 57 #[.val (.long xx), .second, .val (.int sh), .val (.long (Int64.ofNat n)), .second, .unset, .unset, .unset, .unset] [(.ref b1), (.ref b1)]))
  refine Gd.go (fun _ w_k => XS.bipush X35.here hx rfl (hb hby at_57) w_k) ?_
  show Gd _ _ _ _ (T35.setTop (mkF m 59 #[.val (.long xx), .second, .val (.int sh), .val (.long (Int64.ofNat n)), .second, .unset, .unset, .unset, .unset] [(.int (7 : Int32)), (.ref b1), (.ref b1)]))
  refine Gd.go (fun _ w_k => X35.ldc2Long hx hown (mvT hZ (hw _ (List.mem_of_getElem? (i := 8) rfl))) (g := (mkF m 59 #[.val (.long xx), .second, .val (.int sh), .val (.long (Int64.ofNat n)), .second, .unset, .unset, .unset, .unset] [(.int (7 : Int32)), (.ref b1), (.ref b1)])) rfl (hb hby at_59) _ w_k) ?_
  show Gd _ _ _ _ (T35.setTop (mkF m 62 #[.val (.long xx), .second, .val (.int sh), .val (.long (Int64.ofNat n)), .second, .unset, .unset, .unset, .unset] [(.long (10000000 : Int64)), (.int (7 : Int32)), (.ref b1), (.ref b1)]))
  obtain ⟨T40, h40, X40, e40, W40, st40⟩ := own_stJ X35 hx hZ e35 xF36 (j := (7 : Int32)) (by decide) (by decide) (g := (mkF m 62 #[.val (.long xx), .second, .val (.int sh), .val (.long (Int64.ofNat n)), .second, .unset, .unset, .unset, .unset] [(.long (10000000 : Int64)), (.int (7 : Int32)), (.ref b1), (.ref b1)])) rfl rfl (hb hby at_62)
  refine Gd.go (fun _ w_k => st40 _ w_k) ?_
  have xF41 := xF36.set W40
  have xN42 := Fr.snoc X40 xN37 n0_b1
  have xO43 := Old.wr xO38 W40 n0_b1
  have xZs44 := Nat.le_trans xZs39 (Keep.of_wr W40).1
  show Gd _ _ _ _ (T40.setTop (mkF m 63 #[.val (.long xx), .second, .val (.int sh), .val (.long (Int64.ofNat n)), .second, .unset, .unset, .unset, .unset] [(.ref b1)]))
  refine Gd.go (fun _ w_k => XS.dup X40.here hx rfl (hb hby at_63) rfl rfl w_k) ?_
  show Gd _ _ _ _ (T40.setTop (mkF m 64 #[.val (.long xx), .second, .val (.int sh), .val (.long (Int64.ofNat n)), .second, .unset, .unset, .unset, .unset] [(.ref b1), (.ref b1)]))
  refine Gd.go (fun _ w_k => XS.bipush X40.here hx rfl (hb hby at_64) w_k) ?_
  show Gd _ _ _ _ (T40.setTop (mkF m 66 #[.val (.long xx), .second, .val (.int sh), .val (.long (Int64.ofNat n)), .second, .unset, .unset, .unset, .unset] [(.int (8 : Int32)), (.ref b1), (.ref b1)]))
  refine Gd.go (fun _ w_k => X40.ldc2Long hx hown (mvT hZ (hw _ (List.mem_of_getElem? (i := 9) rfl))) (g := (mkF m 66 #[.val (.long xx), .second, .val (.int sh), .val (.long (Int64.ofNat n)), .second, .unset, .unset, .unset, .unset] [(.int (8 : Int32)), (.ref b1), (.ref b1)])) rfl (hb hby at_66) _ w_k) ?_
  show Gd _ _ _ _ (T40.setTop (mkF m 69 #[.val (.long xx), .second, .val (.int sh), .val (.long (Int64.ofNat n)), .second, .unset, .unset, .unset, .unset] [(.long (100000000 : Int64)), (.int (8 : Int32)), (.ref b1), (.ref b1)]))
  obtain ⟨T45, h45, X45, e45, W45, st45⟩ := own_stJ X40 hx hZ e40 xF41 (j := (8 : Int32)) (by decide) (by decide) (g := (mkF m 69 #[.val (.long xx), .second, .val (.int sh), .val (.long (Int64.ofNat n)), .second, .unset, .unset, .unset, .unset] [(.long (100000000 : Int64)), (.int (8 : Int32)), (.ref b1), (.ref b1)])) rfl rfl (hb hby at_69)
  refine Gd.go (fun _ w_k => st45 _ w_k) ?_
  have xF46 := xF41.set W45
  have xN47 := Fr.snoc X45 xN42 n0_b1
  have xO48 := Old.wr xO43 W45 n0_b1
  have xZs49 := Nat.le_trans xZs44 (Keep.of_wr W45).1
  show Gd _ _ _ _ (T45.setTop (mkF m 70 #[.val (.long xx), .second, .val (.int sh), .val (.long (Int64.ofNat n)), .second, .unset, .unset, .unset, .unset] [(.ref b1)]))
  refine Gd.go (fun _ w_k => XS.dup X45.here hx rfl (hb hby at_70) rfl rfl w_k) ?_
  show Gd _ _ _ _ (T45.setTop (mkF m 71 #[.val (.long xx), .second, .val (.int sh), .val (.long (Int64.ofNat n)), .second, .unset, .unset, .unset, .unset] [(.ref b1), (.ref b1)]))
  refine Gd.go (fun _ w_k => XS.bipush X45.here hx rfl (hb hby at_71) w_k) ?_
  show Gd _ _ _ _ (T45.setTop (mkF m 73 #[.val (.long xx), .second, .val (.int sh), .val (.long (Int64.ofNat n)), .second, .unset, .unset, .unset, .unset] [(.int (9 : Int32)), (.ref b1), (.ref b1)]))
  refine Gd.go (fun _ w_k => X45.ldc2Long hx hown (mvT hZ (hw _ (List.mem_of_getElem? (i := 10) rfl))) (g := (mkF m 73 #[.val (.long xx), .second, .val (.int sh), .val (.long (Int64.ofNat n)), .second, .unset, .unset, .unset, .unset] [(.int (9 : Int32)), (.ref b1), (.ref b1)])) rfl (hb hby at_73) _ w_k) ?_
  show Gd _ _ _ _ (T45.setTop (mkF m 76 #[.val (.long xx), .second, .val (.int sh), .val (.long (Int64.ofNat n)), .second, .unset, .unset, .unset, .unset] [(.long (1000000000 : Int64)), (.int (9 : Int32)), (.ref b1), (.ref b1)]))
  obtain ⟨T50, h50, X50, e50, W50, st50⟩ := own_stJ X45 hx hZ e45 xF46 (j := (9 : Int32)) (by decide) (by decide) (g := (mkF m 76 #[.val (.long xx), .second, .val (.int sh), .val (.long (Int64.ofNat n)), .second, .unset, .unset, .unset, .unset] [(.long (1000000000 : Int64)), (.int (9 : Int32)), (.ref b1), (.ref b1)])) rfl rfl (hb hby at_76)
  refine Gd.go (fun _ w_k => st50 _ w_k) ?_
  have xF51 := xF46.set W50
  have xN52 := Fr.snoc X50 xN47 n0_b1
  have xO53 := Old.wr xO48 W50 n0_b1
  have xZs54 := Nat.le_trans xZs49 (Keep.of_wr W50).1
  show Gd _ _ _ _ (T50.setTop (mkF m 77 #[.val (.long xx), .second, .val (.int sh), .val (.long (Int64.ofNat n)), .second, .unset, .unset, .unset, .unset] [(.ref b1)]))
  refine Gd.go (fun _ w_k => XS.dup X50.here hx rfl (hb hby at_77) rfl rfl w_k) ?_
  show Gd _ _ _ _ (T50.setTop (mkF m 78 #[.val (.long xx), .second, .val (.int sh), .val (.long (Int64.ofNat n)), .second, .unset, .unset, .unset, .unset] [(.ref b1), (.ref b1)]))
  refine Gd.go (fun _ w_k => XS.bipush X50.here hx rfl (hb hby at_78) w_k) ?_
  show Gd _ _ _ _ (T50.setTop (mkF m 80 #[.val (.long xx), .second, .val (.int sh), .val (.long (Int64.ofNat n)), .second, .unset, .unset, .unset, .unset] [(.int (10 : Int32)), (.ref b1), (.ref b1)]))
  refine Gd.go (fun _ w_k => X50.ldc2Long hx hown (mvT hZ (hw _ (List.mem_of_getElem? (i := 11) rfl))) (g := (mkF m 80 #[.val (.long xx), .second, .val (.int sh), .val (.long (Int64.ofNat n)), .second, .unset, .unset, .unset, .unset] [(.int (10 : Int32)), (.ref b1), (.ref b1)])) rfl (hb hby at_80) _ w_k) ?_
  show Gd _ _ _ _ (T50.setTop (mkF m 83 #[.val (.long xx), .second, .val (.int sh), .val (.long (Int64.ofNat n)), .second, .unset, .unset, .unset, .unset] [(.long (10000000000 : Int64)), (.int (10 : Int32)), (.ref b1), (.ref b1)]))
  obtain ⟨T55, h55, X55, e55, W55, st55⟩ := own_stJ X50 hx hZ e50 xF51 (j := (10 : Int32)) (by decide) (by decide) (g := (mkF m 83 #[.val (.long xx), .second, .val (.int sh), .val (.long (Int64.ofNat n)), .second, .unset, .unset, .unset, .unset] [(.long (10000000000 : Int64)), (.int (10 : Int32)), (.ref b1), (.ref b1)])) rfl rfl (hb hby at_83)
  refine Gd.go (fun _ w_k => st55 _ w_k) ?_
  have xF56 := xF51.set W55
  have xN57 := Fr.snoc X55 xN52 n0_b1
  have xO58 := Old.wr xO53 W55 n0_b1
  have xZs59 := Nat.le_trans xZs54 (Keep.of_wr W55).1
  show Gd _ _ _ _ (T55.setTop (mkF m 84 #[.val (.long xx), .second, .val (.int sh), .val (.long (Int64.ofNat n)), .second, .unset, .unset, .unset, .unset] [(.ref b1)]))
  refine Gd.go (fun _ w_k => XS.dup X55.here hx rfl (hb hby at_84) rfl rfl w_k) ?_
  show Gd _ _ _ _ (T55.setTop (mkF m 85 #[.val (.long xx), .second, .val (.int sh), .val (.long (Int64.ofNat n)), .second, .unset, .unset, .unset, .unset] [(.ref b1), (.ref b1)]))
  refine Gd.go (fun _ w_k => XS.bipush X55.here hx rfl (hb hby at_85) w_k) ?_
  show Gd _ _ _ _ (T55.setTop (mkF m 87 #[.val (.long xx), .second, .val (.int sh), .val (.long (Int64.ofNat n)), .second, .unset, .unset, .unset, .unset] [(.int (11 : Int32)), (.ref b1), (.ref b1)]))
  refine Gd.go (fun _ w_k => X55.ldc2Long hx hown (mvT hZ (hw _ (List.mem_of_getElem? (i := 12) rfl))) (g := (mkF m 87 #[.val (.long xx), .second, .val (.int sh), .val (.long (Int64.ofNat n)), .second, .unset, .unset, .unset, .unset] [(.int (11 : Int32)), (.ref b1), (.ref b1)])) rfl (hb hby at_87) _ w_k) ?_
  show Gd _ _ _ _ (T55.setTop (mkF m 90 #[.val (.long xx), .second, .val (.int sh), .val (.long (Int64.ofNat n)), .second, .unset, .unset, .unset, .unset] [(.long (100000000000 : Int64)), (.int (11 : Int32)), (.ref b1), (.ref b1)]))
  obtain ⟨T60, h60, X60, e60, W60, st60⟩ := own_stJ X55 hx hZ e55 xF56 (j := (11 : Int32)) (by decide) (by decide) (g := (mkF m 90 #[.val (.long xx), .second, .val (.int sh), .val (.long (Int64.ofNat n)), .second, .unset, .unset, .unset, .unset] [(.long (100000000000 : Int64)), (.int (11 : Int32)), (.ref b1), (.ref b1)])) rfl rfl (hb hby at_90)
  refine Gd.go (fun _ w_k => st60 _ w_k) ?_
  have xF61 := xF56.set W60
  have xN62 := Fr.snoc X60 xN57 n0_b1
  have xO63 := Old.wr xO58 W60 n0_b1
  have xZs64 := Nat.le_trans xZs59 (Keep.of_wr W60).1
  show Gd _ _ _ _ (T60.setTop (mkF m 91 #[.val (.long xx), .second, .val (.int sh), .val (.long (Int64.ofNat n)), .second, .unset, .unset, .unset, .unset] [(.ref b1)]))
  refine Gd.go (fun _ w_k => XS.dup X60.here hx rfl (hb hby at_91) rfl rfl w_k) ?_
  show Gd _ _ _ _ (T60.setTop (mkF m 92 #[.val (.long xx), .second, .val (.int sh), .val (.long (Int64.ofNat n)), .second, .unset, .unset, .unset, .unset] [(.ref b1), (.ref b1)]))
  refine Gd.go (fun _ w_k => XS.bipush X60.here hx rfl (hb hby at_92) w_k) ?_
  show Gd _ _ _ _ (T60.setTop (mkF m 94 #[.val (.long xx), .second, .val (.int sh), .val (.long (Int64.ofNat n)), .second, .unset, .unset, .unset, .unset] [(.int (12 : Int32)), (.ref b1), (.ref b1)]))
  refine Gd.go (fun _ w_k => X60.ldc2Long hx hown (mvT hZ (hw _ (List.mem_of_getElem? (i := 13) rfl))) (g := (mkF m 94 #[.val (.long xx), .second, .val (.int sh), .val (.long (Int64.ofNat n)), .second, .unset, .unset, .unset, .unset] [(.int (12 : Int32)), (.ref b1), (.ref b1)])) rfl (hb hby at_94) _ w_k) ?_
  show Gd _ _ _ _ (T60.setTop (mkF m 97 #[.val (.long xx), .second, .val (.int sh), .val (.long (Int64.ofNat n)), .second, .unset, .unset, .unset, .unset] [(.long (1000000000000 : Int64)), (.int (12 : Int32)), (.ref b1), (.ref b1)]))
  obtain ⟨T65, h65, X65, e65, W65, st65⟩ := own_stJ X60 hx hZ e60 xF61 (j := (12 : Int32)) (by decide) (by decide) (g := (mkF m 97 #[.val (.long xx), .second, .val (.int sh), .val (.long (Int64.ofNat n)), .second, .unset, .unset, .unset, .unset] [(.long (1000000000000 : Int64)), (.int (12 : Int32)), (.ref b1), (.ref b1)])) rfl rfl (hb hby at_97)
  refine Gd.go (fun _ w_k => st65 _ w_k) ?_
  have xF66 := xF61.set W65
  have xN67 := Fr.snoc X65 xN62 n0_b1
  have xO68 := Old.wr xO63 W65 n0_b1
  have xZs69 := Nat.le_trans xZs64 (Keep.of_wr W65).1
  show Gd _ _ _ _ (T65.setTop (mkF m 98 #[.val (.long xx), .second, .val (.int sh), .val (.long (Int64.ofNat n)), .second, .unset, .unset, .unset, .unset] [(.ref b1)]))
  refine Gd.go (fun _ w_k => XS.dup X65.here hx rfl (hb hby at_98) rfl rfl w_k) ?_
  show Gd _ _ _ _ (T65.setTop (mkF m 99 #[.val (.long xx), .second, .val (.int sh), .val (.long (Int64.ofNat n)), .second, .unset, .unset, .unset, .unset] [(.ref b1), (.ref b1)]))
  refine Gd.go (fun _ w_k => XS.bipush X65.here hx rfl (hb hby at_99) w_k) ?_
  show Gd _ _ _ _ (T65.setTop (mkF m 101 #[.val (.long xx), .second, .val (.int sh), .val (.long (Int64.ofNat n)), .second, .unset, .unset, .unset, .unset] [(.int (13 : Int32)), (.ref b1), (.ref b1)]))
  refine Gd.go (fun _ w_k => X65.ldc2Long hx hown (mvT hZ (hw _ (List.mem_of_getElem? (i := 14) rfl))) (g := (mkF m 101 #[.val (.long xx), .second, .val (.int sh), .val (.long (Int64.ofNat n)), .second, .unset, .unset, .unset, .unset] [(.int (13 : Int32)), (.ref b1), (.ref b1)])) rfl (hb hby at_101) _ w_k) ?_
  show Gd _ _ _ _ (T65.setTop (mkF m 104 #[.val (.long xx), .second, .val (.int sh), .val (.long (Int64.ofNat n)), .second, .unset, .unset, .unset, .unset] [(.long (10000000000000 : Int64)), (.int (13 : Int32)), (.ref b1), (.ref b1)]))
  obtain ⟨T70, h70, X70, e70, W70, st70⟩ := own_stJ X65 hx hZ e65 xF66 (j := (13 : Int32)) (by decide) (by decide) (g := (mkF m 104 #[.val (.long xx), .second, .val (.int sh), .val (.long (Int64.ofNat n)), .second, .unset, .unset, .unset, .unset] [(.long (10000000000000 : Int64)), (.int (13 : Int32)), (.ref b1), (.ref b1)])) rfl rfl (hb hby at_104)
  refine Gd.go (fun _ w_k => st70 _ w_k) ?_
  have xF71 := xF66.set W70
  have xN72 := Fr.snoc X70 xN67 n0_b1
  have xO73 := Old.wr xO68 W70 n0_b1
  have xZs74 := Nat.le_trans xZs69 (Keep.of_wr W70).1
  show Gd _ _ _ _ (T70.setTop (mkF m 105 #[.val (.long xx), .second, .val (.int sh), .val (.long (Int64.ofNat n)), .second, .unset, .unset, .unset, .unset] [(.ref b1)]))
  refine Gd.go (fun _ w_k => XS.dup X70.here hx rfl (hb hby at_105) rfl rfl w_k) ?_
  show Gd _ _ _ _ (T70.setTop (mkF m 106 #[.val (.long xx), .second, .val (.int sh), .val (.long (Int64.ofNat n)), .second, .unset, .unset, .unset, .unset] [(.ref b1), (.ref b1)]))
  refine Gd.go (fun _ w_k => XS.bipush X70.here hx rfl (hb hby at_106) w_k) ?_
  show Gd _ _ _ _ (T70.setTop (mkF m 108 #[.val (.long xx), .second, .val (.int sh), .val (.long (Int64.ofNat n)), .second, .unset, .unset, .unset, .unset] [(.int (14 : Int32)), (.ref b1), (.ref b1)]))
  refine Gd.go (fun _ w_k => X70.ldc2Long hx hown (mvT hZ (hw _ (List.mem_of_getElem? (i := 15) rfl))) (g := (mkF m 108 #[.val (.long xx), .second, .val (.int sh), .val (.long (Int64.ofNat n)), .second, .unset, .unset, .unset, .unset] [(.int (14 : Int32)), (.ref b1), (.ref b1)])) rfl (hb hby at_108) _ w_k) ?_
  show Gd _ _ _ _ (T70.setTop (mkF m 111 #[.val (.long xx), .second, .val (.int sh), .val (.long (Int64.ofNat n)), .second, .unset, .unset, .unset, .unset] [(.long (100000000000000 : Int64)), (.int (14 : Int32)), (.ref b1), (.ref b1)]))
  obtain ⟨T75, h75, X75, e75, W75, st75⟩ := own_stJ X70 hx hZ e70 xF71 (j := (14 : Int32)) (by decide) (by decide) (g := (mkF m 111 #[.val (.long xx), .second, .val (.int sh), .val (.long (Int64.ofNat n)), .second, .unset, .unset, .unset, .unset] [(.long (100000000000000 : Int64)), (.int (14 : Int32)), (.ref b1), (.ref b1)])) rfl rfl (hb hby at_111)
  refine Gd.go (fun _ w_k => st75 _ w_k) ?_
  have xF76 := xF71.set W75
  have xN77 := Fr.snoc X75 xN72 n0_b1
  have xO78 := Old.wr xO73 W75 n0_b1
  have xZs79 := Nat.le_trans xZs74 (Keep.of_wr W75).1
  show Gd _ _ _ _ (T75.setTop (mkF m 112 #[.val (.long xx), .second, .val (.int sh), .val (.long (Int64.ofNat n)), .second, .unset, .unset, .unset, .unset] [(.ref b1)]))
  refine Gd.go (fun _ w_k => XS.dup X75.here hx rfl (hb hby at_112) rfl rfl w_k) ?_
  show Gd _ _ _ _ (T75.setTop (mkF m 113 #[.val (.long xx), .second, .val (.int sh), .val (.long (Int64.ofNat n)), .second, .unset, .unset, .unset, .unset] [(.ref b1), (.ref b1)]))
  refine Gd.go (fun _ w_k => XS.bipush X75.here hx rfl (hb hby at_113) w_k) ?_
  show Gd _ _ _ _ (T75.setTop (mkF m 115 #[.val (.long xx), .second, .val (.int sh), .val (.long (Int64.ofNat n)), .second, .unset, .unset, .unset, .unset] [(.int (15 : Int32)), (.ref b1), (.ref b1)]))
  refine Gd.go (fun _ w_k => X75.ldc2Long hx hown (mvT hZ (hw _ (List.mem_of_getElem? (i := 16) rfl))) (g := (mkF m 115 #[.val (.long xx), .second, .val (.int sh), .val (.long (Int64.ofNat n)), .second, .unset, .unset, .unset, .unset] [(.int (15 : Int32)), (.ref b1), (.ref b1)])) rfl (hb hby at_115) _ w_k) ?_
  show Gd _ _ _ _ (T75.setTop (mkF m 118 #[.val (.long xx), .second, .val (.int sh), .val (.long (Int64.ofNat n)), .second, .unset, .unset, .unset, .unset] [(.long (1000000000000000 : Int64)), (.int (15 : Int32)), (.ref b1), (.ref b1)]))
  obtain ⟨T80, h80, X80, e80, W80, st80⟩ := own_stJ X75 hx hZ e75 xF76 (j := (15 : Int32)) (by decide) (by decide) (g := (mkF m 118 #[.val (.long xx), .second, .val (.int sh), .val (.long (Int64.ofNat n)), .second, .unset, .unset, .unset, .unset] [(.long (1000000000000000 : Int64)), (.int (15 : Int32)), (.ref b1), (.ref b1)])) rfl rfl (hb hby at_118)
  refine Gd.go (fun _ w_k => st80 _ w_k) ?_
  have xF81 := xF76.set W80
  have xN82 := Fr.snoc X80 xN77 n0_b1
  have xO83 := Old.wr xO78 W80 n0_b1
  have xZs84 := Nat.le_trans xZs79 (Keep.of_wr W80).1
  show Gd _ _ _ _ (T80.setTop (mkF m 119 #[.val (.long xx), .second, .val (.int sh), .val (.long (Int64.ofNat n)), .second, .unset, .unset, .unset, .unset] [(.ref b1)]))
  refine Gd.go (fun _ w_k => XS.dup X80.here hx rfl (hb hby at_119) rfl rfl w_k) ?_
  show Gd _ _ _ _ (T80.setTop (mkF m 120 #[.val (.long xx), .second, .val (.int sh), .val (.long (Int64.ofNat n)), .second, .unset, .unset, .unset, .unset] [(.ref b1), (.ref b1)]))
  refine Gd.go (fun _ w_k => XS.bipush X80.here hx rfl (hb hby at_120) w_k) ?_
  show Gd _ _ _ _ (T80.setTop (mkF m 122 #[.val (.long xx), .second, .val (.int sh), .val (.long (Int64.ofNat n)), .second, .unset, .unset, .unset, .unset] [(.int (16 : Int32)), (.ref b1), (.ref b1)]))
  refine Gd.go (fun _ w_k => X80.ldc2Long hx hown (mvT hZ (hw _ (List.mem_of_getElem? (i := 17) rfl))) (g := (mkF m 122 #[.val (.long xx), .second, .val (.int sh), .val (.long (Int64.ofNat n)), .second, .unset, .unset, .unset, .unset] [(.int (16 : Int32)), (.ref b1), (.ref b1)])) rfl (hb hby at_122) _ w_k) ?_
  show Gd _ _ _ _ (T80.setTop (mkF m 125 #[.val (.long xx), .second, .val (.int sh), .val (.long (Int64.ofNat n)), .second, .unset, .unset, .unset, .unset] [(.long (10000000000000000 : Int64)), (.int (16 : Int32)), (.ref b1), (.ref b1)]))
  obtain ⟨T85, h85, X85, e85, W85, st85⟩ := own_stJ X80 hx hZ e80 xF81 (j := (16 : Int32)) (by decide) (by decide) (g := (mkF m 125 #[.val (.long xx), .second, .val (.int sh), .val (.long (Int64.ofNat n)), .second, .unset, .unset, .unset, .unset] [(.long (10000000000000000 : Int64)), (.int (16 : Int32)), (.ref b1), (.ref b1)])) rfl rfl (hb hby at_125)
  refine Gd.go (fun _ w_k => st85 _ w_k) ?_
  have xF86 := xF81.set W85
  have xN87 := Fr.snoc X85 xN82 n0_b1
  have xO88 := Old.wr xO83 W85 n0_b1
  have xZs89 := Nat.le_trans xZs84 (Keep.of_wr W85).1
  show Gd _ _ _ _ (T85.setTop (mkF m 126 #[.val (.long xx), .second, .val (.int sh), .val (.long (Int64.ofNat n)), .second, .unset, .unset, .unset, .unset] [(.ref b1)]))
  refine Gd.go (fun _ w_k => XS.dup X85.here hx rfl (hb hby at_126) rfl rfl w_k) ?_
  show Gd _ _ _ _ (T85.setTop (mkF m 127 #[.val (.long xx), .second, .val (.int sh), .val (.long (Int64.ofNat n)), .second, .unset, .unset, .unset, .unset] [(.ref b1), (.ref b1)]))
  refine Gd.go (fun _ w_k => XS.bipush X85.here hx rfl (hb hby at_127) w_k) ?_
  show Gd _ _ _ _ (T85.setTop (mkF m 129 #[.val (.long xx), .second, .val (.int sh), .val (.long (Int64.ofNat n)), .second, .unset, .unset, .unset, .unset] [(.int (17 : Int32)), (.ref b1), (.ref b1)]))
  refine Gd.go (fun _ w_k => X85.ldc2Long hx hown (mvT hZ (hw _ (List.mem_of_getElem? (i := 18) rfl))) (g := (mkF m 129 #[.val (.long xx), .second, .val (.int sh), .val (.long (Int64.ofNat n)), .second, .unset, .unset, .unset, .unset] [(.int (17 : Int32)), (.ref b1), (.ref b1)])) rfl (hb hby at_129) _ w_k) ?_
  show Gd _ _ _ _ (T85.setTop (mkF m 132 #[.val (.long xx), .second, .val (.int sh), .val (.long (Int64.ofNat n)), .second, .unset, .unset, .unset, .unset] [(.long (100000000000000000 : Int64)), (.int (17 : Int32)), (.ref b1), (.ref b1)]))
  obtain ⟨T90, h90, X90, e90, W90, st90⟩ := own_stJ X85 hx hZ e85 xF86 (j := (17 : Int32)) (by decide) (by decide) (g := (mkF m 132 #[.val (.long xx), .second, .val (.int sh), .val (.long (Int64.ofNat n)), .second, .unset, .unset, .unset, .unset] [(.long (100000000000000000 : Int64)), (.int (17 : Int32)), (.ref b1), (.ref b1)])) rfl rfl (hb hby at_132)
  refine Gd.go (fun _ w_k => st90 _ w_k) ?_
  have xF91 := xF86.set W90
  have xN92 := Fr.snoc X90 xN87 n0_b1
  have xO93 := Old.wr xO88 W90 n0_b1
  have xZs94 := Nat.le_trans xZs89 (Keep.of_wr W90).1
  show Gd _ _ _ _ (T90.setTop (mkF m 133 #[.val (.long xx), .second, .val (.int sh), .val (.long (Int64.ofNat n)), .second, .unset, .unset, .unset, .unset] [(.ref b1)]))
  refine Gd.go (fun _ w_k => XS.dup X90.here hx rfl (hb hby at_133) rfl rfl w_k) ?_
  show Gd _ _ _ _ (T90.setTop (mkF m 134 #[.val (.long xx), .second, .val (.int sh), .val (.long (Int64.ofNat n)), .second, .unset, .unset, .unset, .unset] [(.ref b1), (.ref b1)]))
  refine Gd.go (fun _ w_k => XS.bipush X90.here hx rfl (hb hby at_134) w_k) ?_
  show Gd _ _ _ _ (T90.setTop (mkF m 136 #[.val (.long xx), .second, .val (.int sh), .val (.long (Int64.ofNat n)), .second, .unset, .unset, .unset, .unset] [(.int (18 : Int32)), (.ref b1), (.ref b1)]))
  refine Gd.go (fun _ w_k => X90.ldc2Long hx hown (mvT hZ (hw _ (List.mem_of_getElem? (i := 19) rfl))) (g := (mkF m 136 #[.val (.long xx), .second, .val (.int sh), .val (.long (Int64.ofNat n)), .second, .unset, .unset, .unset, .unset] [(.int (18 : Int32)), (.ref b1), (.ref b1)])) rfl (hb hby at_136) _ w_k) ?_
  show Gd _ _ _ _ (T90.setTop (mkF m 139 #[.val (.long xx), .second, .val (.int sh), .val (.long (Int64.ofNat n)), .second, .unset, .unset, .unset, .unset] [(.long (1000000000000000000 : Int64)), (.int (18 : Int32)), (.ref b1), (.ref b1)]))
  obtain ⟨T95, h95, X95, e95, W95, st95⟩ := own_stJ X90 hx hZ e90 xF91 (j := (18 : Int32)) (by decide) (by decide) (g := (mkF m 139 #[.val (.long xx), .second, .val (.int sh), .val (.long (Int64.ofNat n)), .second, .unset, .unset, .unset, .unset] [(.long (1000000000000000000 : Int64)), (.int (18 : Int32)), (.ref b1), (.ref b1)])) rfl rfl (hb hby at_139)
  refine Gd.go (fun _ w_k => st95 _ w_k) ?_
  have xF96 := xF91.set W95
  have xN97 := Fr.snoc X95 xN92 n0_b1
  have xO98 := Old.wr xO93 W95 n0_b1
  have xZs99 := Nat.le_trans xZs94 (Keep.of_wr W95).1
  show Gd _ _ _ _ (T95.setTop (mkF m 140 #[.val (.long xx), .second, .val (.int sh), .val (.long (Int64.ofNat n)), .second, .unset, .unset, .unset, .unset] [(.ref b1)]))
  have AP : ArF Z h95 b1 .long 19 (fun j => .long (own_p j)) := xF96.congr (fun i hi => (match i, hi with
    | 0, _ => rfl
    | 1, _ => rfl
    | 2, _ => rfl
    | 3, _ => rfl
    | 4, _ => rfl
    | 5, _ => rfl
    | 6, _ => rfl
    | 7, _ => rfl
    | 8, _ => rfl
    | 9, _ => rfl
    | 10, _ => rfl
    | 11, _ => rfl
    | 12, _ => rfl
    | 13, _ => rfl
    | 14, _ => rfl
    | 15, _ => rfl
    | 16, _ => rfl
    | 17, _ => rfl
    | 18, _ => rfl
    | (q + 19), h => absurd h (by omega)))
  refine Gd.go (fun _ w_k => XS.astore X95.here hx rfl (hb hby at_140) rfl rfl (l' := #[.val (.long xx), .second, .val (.int sh), .val (.long (Int64.ofNat n)), .second, .val (.ref b1), .unset, .unset, .unset]) rfl w_k) ?_
  show Gd _ _ _ _ (T95.setTop (mkF m 142 #[.val (.long xx), .second, .val (.int sh), .val (.long (Int64.ofNat n)), .second, .val (.ref b1), .unset, .unset, .unset] []))
  refine Gd.go (fun _ w_k => XS.lloadN X95.here hx rfl (hb hby at_142) rfl w_k) ?_
  show Gd _ _ _ _ (T95.setTop (mkF m 143 #[.val (.long xx), .second, .val (.int sh), .val (.long (Int64.ofNat n)), .second, .val (.ref b1), .unset, .unset, .unset] [(.long (Int64.ofNat n))]))
  refine Gd.go (fun _ w_k => XS.aload X95.here hx rfl (hb hby at_143) rfl rfl w_k) ?_
  show Gd _ _ _ _ (T95.setTop (mkF m 145 #[.val (.long xx), .second, .val (.int sh), .val (.long (Int64.ofNat n)), .second, .val (.ref b1), .unset, .unset, .unset] [(.ref b1), (.long (Int64.ofNat n))]))
  obtain ⟨T100, X100, e100, st100⟩ := own_callSP X95 hx hZ (y := (⟨"com/example/yuletally/yuletally/engine/DigitsGroupedPinLaw", "digitCount", "(J[J)I"⟩ : MethodName)) hown (hw _ (List.mem_of_getElem? (i := 20) rfl)) (hw _ (List.mem_of_getElem? (i := 21) rfl)) (hw _ (List.mem_of_getElem? (i := 22) rfl)) (hw _ (List.mem_of_getElem? (i := 23) rfl)) (by decide) (W := 0) (own_c1 l Z a0 hw n k hn hk b1 h95 AP) rfl rfl e95 (by decide) (by decide) (g := (mkF m 145 #[.val (.long xx), .second, .val (.int sh), .val (.long (Int64.ofNat n)), .second, .val (.ref b1), .unset, .unset, .unset] [(.ref b1), (.long (Int64.ofNat n))])) rfl (by rw [hml]; rfl) (argsL := [(.long (Int64.ofNat n)), (.ref b1)]) (rest := []) (lenOf own_pd25 rfl) rfl (Nat.le_of_eq rfl) (hb hby at_145) rfl
  refine Gd.go (fun _ w_k => st100 _ w_k) ?_
  show Gd _ _ _ _ (T100.setTop (mkF m 148 #[.val (.long xx), .second, .val (.int sh), .val (.long (Int64.ofNat n)), .second, .val (.ref b1), .unset, .unset, .unset] [(.int (Int32.ofNat k))]))
  refine Gd.go (fun _ w_k => XS.istore X100.here hx rfl (hb hby at_148) rfl (l' := #[.val (.long xx), .second, .val (.int sh), .val (.long (Int64.ofNat n)), .second, .val (.ref b1), .val (.int (Int32.ofNat k)), .unset, .unset]) rfl w_k) ?_
  show Gd _ _ _ _ (T100.setTop (mkF m 150 #[.val (.long xx), .second, .val (.int sh), .val (.long (Int64.ofNat n)), .second, .val (.ref b1), .val (.int (Int32.ofNat k)), .unset, .unset] []))
  refine Gd.go (fun _ w_k => XS.iload X100.here hx rfl (hb hby at_150) rfl w_k) ?_
  show Gd _ _ _ _ (T100.setTop (mkF m 152 #[.val (.long xx), .second, .val (.int sh), .val (.long (Int64.ofNat n)), .second, .val (.ref b1), .val (.int (Int32.ofNat k)), .unset, .unset] [(.int (Int32.ofNat k))]))
  refine Gd.go (fun _ w_k => XS.iload X100.here hx rfl (hb hby at_152) rfl w_k) ?_
  show Gd _ _ _ _ (T100.setTop (mkF m 154 #[.val (.long xx), .second, .val (.int sh), .val (.long (Int64.ofNat n)), .second, .val (.ref b1), .val (.int (Int32.ofNat k)), .unset, .unset] [(.int (Int32.ofNat k)), (.int (Int32.ofNat k))]))
  refine Gd.go (fun _ w_k => XS.iconst X100.here hx rfl (hb hby at_154) w_k) ?_
  show Gd _ _ _ _ (T100.setTop (mkF m 155 #[.val (.long xx), .second, .val (.int sh), .val (.long (Int64.ofNat n)), .second, .val (.ref b1), .val (.int (Int32.ofNat k)), .unset, .unset] [(.int (1 : Int32)), (.int (Int32.ofNat k)), (.int (Int32.ofNat k))]))
  refine Gd.go (fun _ w_k => XS.isub X100.here hx rfl (hb hby at_155) rfl w_k) ?_
  show Gd _ _ _ _ (T100.setTop (mkF m 156 #[.val (.long xx), .second, .val (.int sh), .val (.long (Int64.ofNat n)), .second, .val (.ref b1), .val (.int (Int32.ofNat k)), .unset, .unset] [(.int ((Int32.ofNat k) - (1 : Int32))), (.int (Int32.ofNat k))]))
  refine Gd.go (fun _ w_k => XS.iconst X100.here hx rfl (hb hby at_156) w_k) ?_
  show Gd _ _ _ _ (T100.setTop (mkF m 157 #[.val (.long xx), .second, .val (.int sh), .val (.long (Int64.ofNat n)), .second, .val (.ref b1), .val (.int (Int32.ofNat k)), .unset, .unset] [(.int (3 : Int32)), (.int ((Int32.ofNat k) - (1 : Int32))), (.int (Int32.ofNat k))]))
  refine Gd.go (fun _ w_k => XS.idiv X100.here hx rfl (hb hby at_157) rfl (by decide) w_k) ?_
  show Gd _ _ _ _ (T100.setTop (mkF m 158 #[.val (.long xx), .second, .val (.int sh), .val (.long (Int64.ofNat n)), .second, .val (.ref b1), .val (.int (Int32.ofNat k)), .unset, .unset] [(.int (((Int32.ofNat k) - (1 : Int32)) / (3 : Int32))), (.int (Int32.ofNat k))]))
  refine Gd.go (fun _ w_k => XS.iadd X100.here hx rfl (hb hby at_158) rfl w_k) ?_
  show Gd _ _ _ _ (T100.setTop (mkF m 159 #[.val (.long xx), .second, .val (.int sh), .val (.long (Int64.ofNat n)), .second, .val (.ref b1), .val (.int (Int32.ofNat k)), .unset, .unset] [(.int ((Int32.ofNat k) + (((Int32.ofNat k) - (1 : Int32)) / (3 : Int32))))]))
  rw [own_lenE hk1 hk19]
  show Gd _ _ _ _ (T100.setTop (mkF m 159 #[.val (.long xx), .second, .val (.int sh), .val (.long (Int64.ofNat n)), .second, .val (.ref b1), .val (.int (Int32.ofNat k)), .unset, .unset] [(.int (Int32.ofNat (k + (k - 1) / 3)))]))
  refine Gd.go (fun _ w_k => XS.istore X100.here hx rfl (hb hby at_159) rfl (l' := #[.val (.long xx), .second, .val (.int sh), .val (.long (Int64.ofNat n)), .second, .val (.ref b1), .val (.int (Int32.ofNat k)), .val (.int (Int32.ofNat (k + (k - 1) / 3))), .unset]) rfl w_k) ?_
  show Gd _ _ _ _ (T100.setTop (mkF m 161 #[.val (.long xx), .second, .val (.int sh), .val (.long (Int64.ofNat n)), .second, .val (.ref b1), .val (.int (Int32.ofNat k)), .val (.int (Int32.ofNat (k + (k - 1) / 3))), .unset] []))
  refine Gd.go (fun _ w_k => XS.lloadN X100.here hx rfl (hb hby at_161) rfl w_k) ?_
  show Gd _ _ _ _ (T100.setTop (mkF m 162 #[.val (.long xx), .second, .val (.int sh), .val (.long (Int64.ofNat n)), .second, .val (.ref b1), .val (.int (Int32.ofNat k)), .val (.int (Int32.ofNat (k + (k - 1) / 3))), .unset] [(.long (Int64.ofNat n))]))
  obtain ⟨v101, T101, L101, X101, hQ101, st101⟩ := own_callS X100 hx hZ (y := (⟨"com/example/yuletally/yuletally/engine/Digits", "grouped", "(J)Ljava/lang/String;"⟩ : MethodName)) hown (hw _ (List.mem_of_getElem? (i := 24) rfl)) (hw _ (List.mem_of_getElem? (i := 25) rfl)) (hw _ (List.mem_of_getElem? (i := 26) rfl)) (hw _ (List.mem_of_getElem? (i := 27) rfl)) (by decide) (W := 0) (own_c2 l Z a0 hw cs fv gv d1 d2 G h95 n0 xO98 xZs99 n k hn hk) rfl rfl e100 (by decide) (by decide) (g := (mkF m 162 #[.val (.long xx), .second, .val (.int sh), .val (.long (Int64.ofNat n)), .second, .val (.ref b1), .val (.int (Int32.ofNat k)), .val (.int (Int32.ofNat (k + (k - 1) / 3))), .unset] [(.long (Int64.ofNat n))])) rfl (by rw [hml]; rfl) (argsL := [(.long (Int64.ofNat n))]) (rest := []) (lenOf own_pd20 rfl) rfl (Nat.le_of_eq rfl) (hb hby at_162) rfl (by decide) (by decide)
  obtain ⟨t, W, rfl, K1, HT, O1, N1⟩ := hQ101
  refine Gd.go (fun _ w_k => st101 _ w_k) ?_
  show Gd _ _ _ _ (T101.setTop (mkF m 165 #[.val (.long xx), .second, .val (.int sh), .val (.long (Int64.ofNat n)), .second, .val (.ref b1), .val (.int (Int32.ofNat k)), .val (.int (Int32.ofNat (k + (k - 1) / 3))), .unset] [(.ref t)]))
  have xF102 := AP.keep K1 nin0
  have xZs103 := Nat.le_trans xZs99 K1.1
  have xN104 := Fr.app xN97 N1
  refine Gd.go (fun _ w_k => XS.astore X101.here hx rfl (hb hby at_165) rfl rfl (l' := #[.val (.long xx), .second, .val (.int sh), .val (.long (Int64.ofNat n)), .second, .val (.ref b1), .val (.int (Int32.ofNat k)), .val (.int (Int32.ofNat (k + (k - 1) / 3))), .val (.ref t)]) rfl w_k) ?_
  show Gd _ _ _ _ (T101.setTop (mkF m 167 #[.val (.long xx), .second, .val (.int sh), .val (.long (Int64.ofNat n)), .second, .val (.ref b1), .val (.int (Int32.ofNat k)), .val (.int (Int32.ofNat (k + (k - 1) / 3))), .val (.ref t)] []))
  refine Gd.go (fun _ w_k => XS.aload X101.here hx rfl (hb hby at_167) rfl rfl w_k) ?_
  show Gd _ _ _ _ (T101.setTop (mkF m 169 #[.val (.long xx), .second, .val (.int sh), .val (.long (Int64.ofNat n)), .second, .val (.ref b1), .val (.int (Int32.ofNat k)), .val (.int (Int32.ofNat (k + (k - 1) / 3))), .val (.ref t)] [(.ref t)]))
  refine Gd.go (fun _ w_k => XS.ifnullNo X101.here hx rfl (hb hby at_169) rfl w_k) ?_
  show Gd _ _ _ _ (T101.setTop (mkF m 172 #[.val (.long xx), .second, .val (.int sh), .val (.long (Int64.ofNat n)), .second, .val (.ref b1), .val (.int (Int32.ofNat k)), .val (.int (Int32.ofNat (k + (k - 1) / 3))), .val (.ref t)] []))
  refine Gd.go (fun _ w_k => XS.aload X101.here hx rfl (hb hby at_172) rfl rfl w_k) ?_
  show Gd _ _ _ _ (T101.setTop (mkF m 174 #[.val (.long xx), .second, .val (.int sh), .val (.long (Int64.ofNat n)), .second, .val (.ref b1), .val (.int (Int32.ofNat k)), .val (.int (Int32.ofNat (k + (k - 1) / 3))), .val (.ref t)] [(.ref t)]))
  obtain ⟨T105, X105, e105, st105⟩ := own_callVP X101 hx hZ (C := "java/lang/String") (y := (⟨"java/lang/String", "length", "()I"⟩ : MethodName)) hown (hw _ (List.mem_of_getElem? (i := 181) rfl)) (hw _ (List.mem_of_getElem? (i := 59) rfl)) (hw _ (List.mem_of_getElem? (i := 61) rfl)) (hw _ (List.mem_of_getElem? (i := 60) rfl)) (hw _ (List.mem_of_getElem? (i := 37) rfl)) (hw _ (List.mem_of_getElem? (i := 62) rfl)) (by decide) HT.1 (W := 0) (own_c8 l Z a0 hw cs fv gv d1 d2 G T101.heap n0 O1 t W (k + (k - 1) / 3) (own_w n k) HT) rfl rfl rfl (by decide) (by decide) (g := (mkF m 174 #[.val (.long xx), .second, .val (.int sh), .val (.long (Int64.ofNat n)), .second, .val (.ref b1), .val (.int (Int32.ofNat k)), .val (.int (Int32.ofNat (k + (k - 1) / 3))), .val (.ref t)] [(.ref t)])) rfl (by rw [hml]; rfl) (argsL := []) (rest := []) (lenOf own_pd1 rfl) rfl (Nat.le_of_eq rfl) (hb hby at_174) rfl
  refine Gd.go (fun _ w_k => st105 _ w_k) ?_
  show Gd _ _ _ _ (T105.setTop (mkF m 177 #[.val (.long xx), .second, .val (.int sh), .val (.long (Int64.ofNat n)), .second, .val (.ref b1), .val (.int (Int32.ofNat k)), .val (.int (Int32.ofNat (k + (k - 1) / 3))), .val (.ref t)] [(.int (Int32.ofNat (k + (k - 1) / 3)))]))
  skip
  refine Gd.go (fun _ w_k => XS.iload X105.here hx rfl (hb hby at_177) rfl w_k) ?_
  show Gd _ _ _ _ (T105.setTop (mkF m 179 #[.val (.long xx), .second, .val (.int sh), .val (.long (Int64.ofNat n)), .second, .val (.ref b1), .val (.int (Int32.ofNat k)), .val (.int (Int32.ofNat (k + (k - 1) / 3))), .val (.ref t)] [(.int (Int32.ofNat (k + (k - 1) / 3))), (.int (Int32.ofNat (k + (k - 1) / 3)))]))
  refine Gd.go (fun _ w_k => XS.icmpYes X105.here hx rfl (pc0 := 179) (pc' := 184) rfl (hb hby at_179) rfl (teq rfl).1 (by decide) (by decide) w_k) ?_
  show Gd _ _ _ _ (T105.setTop (mkF m 184 #[.val (.long xx), .second, .val (.int sh), .val (.long (Int64.ofNat n)), .second, .val (.ref b1), .val (.int (Int32.ofNat k)), .val (.int (Int32.ofNat (k + (k - 1) / 3))), .val (.ref t)] []))
  refine Gd.go (fun _ w_k => XS.aload X105.here hx rfl (hb hby at_184) rfl rfl w_k) ?_
  show Gd _ _ _ _ (T105.setTop (mkF m 186 #[.val (.long xx), .second, .val (.int sh), .val (.long (Int64.ofNat n)), .second, .val (.ref b1), .val (.int (Int32.ofNat k)), .val (.int (Int32.ofNat (k + (k - 1) / 3))), .val (.ref t)] [(.ref t)]))
  refine Gd.go (fun _ w_k => XS.lloadN X105.here hx rfl (hb hby at_186) rfl w_k) ?_
  show Gd _ _ _ _ (T105.setTop (mkF m 187 #[.val (.long xx), .second, .val (.int sh), .val (.long (Int64.ofNat n)), .second, .val (.ref b1), .val (.int (Int32.ofNat k)), .val (.int (Int32.ofNat (k + (k - 1) / 3))), .val (.ref t)] [(.long (Int64.ofNat n)), (.ref t)]))
  refine Gd.go (fun _ w_k => XS.aload X105.here hx rfl (hb hby at_187) rfl rfl w_k) ?_
  show Gd _ _ _ _ (T105.setTop (mkF m 189 #[.val (.long xx), .second, .val (.int sh), .val (.long (Int64.ofNat n)), .second, .val (.ref b1), .val (.int (Int32.ofNat k)), .val (.int (Int32.ofNat (k + (k - 1) / 3))), .val (.ref t)] [(.ref b1), (.long (Int64.ofNat n)), (.ref t)]))
  refine Gd.go (fun _ w_k => XS.iload X105.here hx rfl (hb hby at_189) rfl w_k) ?_
  show Gd _ _ _ _ (T105.setTop (mkF m 191 #[.val (.long xx), .second, .val (.int sh), .val (.long (Int64.ofNat n)), .second, .val (.ref b1), .val (.int (Int32.ofNat k)), .val (.int (Int32.ofNat (k + (k - 1) / 3))), .val (.ref t)] [(.int (Int32.ofNat (k + (k - 1) / 3))), (.ref b1), (.long (Int64.ofNat n)), (.ref t)]))
  refine Gd.go (fun _ w_k => XS.iconst X105.here hx rfl (hb hby at_191) w_k) ?_
  show Gd _ _ _ _ (T105.setTop (mkF m 192 #[.val (.long xx), .second, .val (.int sh), .val (.long (Int64.ofNat n)), .second, .val (.ref b1), .val (.int (Int32.ofNat k)), .val (.int (Int32.ofNat (k + (k - 1) / 3))), .val (.ref t)] [(.int (0 : Int32)), (.int (Int32.ofNat (k + (k - 1) / 3))), (.ref b1), (.long (Int64.ofNat n)), (.ref t)]))
  obtain ⟨T106, X106, e106, st106⟩ := own_callSP X105 hx hZ (y := (⟨"com/example/yuletally/yuletally/engine/DigitsGroupedPinLaw", "at", "(Ljava/lang/String;J[JII)Z"⟩ : MethodName)) hown (hw _ (List.mem_of_getElem? (i := 182) rfl)) (hw _ (List.mem_of_getElem? (i := 183) rfl)) (hw _ (List.mem_of_getElem? (i := 22) rfl)) (hw _ (List.mem_of_getElem? (i := 184) rfl)) (by decide) (W := 0) (own_c27 l Z a0 hw cs fv gv d1 d2 G T101.heap n0 O1 n k hn hk (k + (k - 1) / 3) rfl b1 xF102 t W HT 0 (by decide)) rfl rfl e105 (by decide) (by decide) (g := (mkF m 192 #[.val (.long xx), .second, .val (.int sh), .val (.long (Int64.ofNat n)), .second, .val (.ref b1), .val (.int (Int32.ofNat k)), .val (.int (Int32.ofNat (k + (k - 1) / 3))), .val (.ref t)] [(.int (0 : Int32)), (.int (Int32.ofNat (k + (k - 1) / 3))), (.ref b1), (.long (Int64.ofNat n)), (.ref t)])) rfl (by rw [hml]; rfl) (argsL := [(.ref t), (.long (Int64.ofNat n)), (.ref b1), (.int (Int32.ofNat (k + (k - 1) / 3))), (.int (0 : Int32))]) (rest := []) (lenOf own_pd26 rfl) rfl (Nat.le_of_eq rfl) (hb hby at_192) rfl
  refine Gd.go (fun _ w_k => st106 _ w_k) ?_
  show Gd _ _ _ _ (T106.setTop (mkF m 195 #[.val (.long xx), .second, .val (.int sh), .val (.long (Int64.ofNat n)), .second, .val (.ref b1), .val (.int (Int32.ofNat k)), .val (.int (Int32.ofNat (k + (k - 1) / 3))), .val (.ref t)] [(.int (1 : Int32))]))
  refine Gd.go (fun _ w_k => XS.ifNo X106.here hx rfl (hb hby at_195) rfl ((if0 _ _).trans (feq (by decide)).1) w_k) ?_
  show Gd _ _ _ _ (T106.setTop (mkF m 198 #[.val (.long xx), .second, .val (.int sh), .val (.long (Int64.ofNat n)), .second, .val (.ref b1), .val (.int (Int32.ofNat k)), .val (.int (Int32.ofNat (k + (k - 1) / 3))), .val (.ref t)] []))
  refine Gd.go (fun _ w_k => XS.aload X106.here hx rfl (hb hby at_198) rfl rfl w_k) ?_
  show Gd _ _ _ _ (T106.setTop (mkF m 200 #[.val (.long xx), .second, .val (.int sh), .val (.long (Int64.ofNat n)), .second, .val (.ref b1), .val (.int (Int32.ofNat k)), .val (.int (Int32.ofNat (k + (k - 1) / 3))), .val (.ref t)] [(.ref t)]))
  refine Gd.go (fun _ w_k => XS.lloadN X106.here hx rfl (hb hby at_200) rfl w_k) ?_
  show Gd _ _ _ _ (T106.setTop (mkF m 201 #[.val (.long xx), .second, .val (.int sh), .val (.long (Int64.ofNat n)), .second, .val (.ref b1), .val (.int (Int32.ofNat k)), .val (.int (Int32.ofNat (k + (k - 1) / 3))), .val (.ref t)] [(.long (Int64.ofNat n)), (.ref t)]))
  refine Gd.go (fun _ w_k => XS.aload X106.here hx rfl (hb hby at_201) rfl rfl w_k) ?_
  show Gd _ _ _ _ (T106.setTop (mkF m 203 #[.val (.long xx), .second, .val (.int sh), .val (.long (Int64.ofNat n)), .second, .val (.ref b1), .val (.int (Int32.ofNat k)), .val (.int (Int32.ofNat (k + (k - 1) / 3))), .val (.ref t)] [(.ref b1), (.long (Int64.ofNat n)), (.ref t)]))
  refine Gd.go (fun _ w_k => XS.iload X106.here hx rfl (hb hby at_203) rfl w_k) ?_
  show Gd _ _ _ _ (T106.setTop (mkF m 205 #[.val (.long xx), .second, .val (.int sh), .val (.long (Int64.ofNat n)), .second, .val (.ref b1), .val (.int (Int32.ofNat k)), .val (.int (Int32.ofNat (k + (k - 1) / 3))), .val (.ref t)] [(.int (Int32.ofNat (k + (k - 1) / 3))), (.ref b1), (.long (Int64.ofNat n)), (.ref t)]))
  refine Gd.go (fun _ w_k => XS.iconst X106.here hx rfl (hb hby at_205) w_k) ?_
  show Gd _ _ _ _ (T106.setTop (mkF m 206 #[.val (.long xx), .second, .val (.int sh), .val (.long (Int64.ofNat n)), .second, .val (.ref b1), .val (.int (Int32.ofNat k)), .val (.int (Int32.ofNat (k + (k - 1) / 3))), .val (.ref t)] [(.int (1 : Int32)), (.int (Int32.ofNat (k + (k - 1) / 3))), (.ref b1), (.long (Int64.ofNat n)), (.ref t)]))
  obtain ⟨T107, X107, e107, st107⟩ := own_callSP X106 hx hZ (y := (⟨"com/example/yuletally/yuletally/engine/DigitsGroupedPinLaw", "at", "(Ljava/lang/String;J[JII)Z"⟩ : MethodName)) hown (hw _ (List.mem_of_getElem? (i := 182) rfl)) (hw _ (List.mem_of_getElem? (i := 183) rfl)) (hw _ (List.mem_of_getElem? (i := 22) rfl)) (hw _ (List.mem_of_getElem? (i := 184) rfl)) (by decide) (W := 0) (own_c27 l Z a0 hw cs fv gv d1 d2 G T101.heap n0 O1 n k hn hk (k + (k - 1) / 3) rfl b1 xF102 t W HT 1 (by decide)) rfl rfl e106 (by decide) (by decide) (g := (mkF m 206 #[.val (.long xx), .second, .val (.int sh), .val (.long (Int64.ofNat n)), .second, .val (.ref b1), .val (.int (Int32.ofNat k)), .val (.int (Int32.ofNat (k + (k - 1) / 3))), .val (.ref t)] [(.int (1 : Int32)), (.int (Int32.ofNat (k + (k - 1) / 3))), (.ref b1), (.long (Int64.ofNat n)), (.ref t)])) rfl (by rw [hml]; rfl) (argsL := [(.ref t), (.long (Int64.ofNat n)), (.ref b1), (.int (Int32.ofNat (k + (k - 1) / 3))), (.int (1 : Int32))]) (rest := []) (lenOf own_pd26 rfl) rfl (Nat.le_of_eq rfl) (hb hby at_206) rfl
  refine Gd.go (fun _ w_k => st107 _ w_k) ?_
  show Gd _ _ _ _ (T107.setTop (mkF m 209 #[.val (.long xx), .second, .val (.int sh), .val (.long (Int64.ofNat n)), .second, .val (.ref b1), .val (.int (Int32.ofNat k)), .val (.int (Int32.ofNat (k + (k - 1) / 3))), .val (.ref t)] [(.int (1 : Int32))]))
  refine Gd.go (fun _ w_k => XS.ifNo X107.here hx rfl (hb hby at_209) rfl ((if0 _ _).trans (feq (by decide)).1) w_k) ?_
  show Gd _ _ _ _ (T107.setTop (mkF m 212 #[.val (.long xx), .second, .val (.int sh), .val (.long (Int64.ofNat n)), .second, .val (.ref b1), .val (.int (Int32.ofNat k)), .val (.int (Int32.ofNat (k + (k - 1) / 3))), .val (.ref t)] []))
  refine Gd.go (fun _ w_k => XS.aload X107.here hx rfl (hb hby at_212) rfl rfl w_k) ?_
  show Gd _ _ _ _ (T107.setTop (mkF m 214 #[.val (.long xx), .second, .val (.int sh), .val (.long (Int64.ofNat n)), .second, .val (.ref b1), .val (.int (Int32.ofNat k)), .val (.int (Int32.ofNat (k + (k - 1) / 3))), .val (.ref t)] [(.ref t)]))
  refine Gd.go (fun _ w_k => XS.lloadN X107.here hx rfl (hb hby at_214) rfl w_k) ?_
  show Gd _ _ _ _ (T107.setTop (mkF m 215 #[.val (.long xx), .second, .val (.int sh), .val (.long (Int64.ofNat n)), .second, .val (.ref b1), .val (.int (Int32.ofNat k)), .val (.int (Int32.ofNat (k + (k - 1) / 3))), .val (.ref t)] [(.long (Int64.ofNat n)), (.ref t)]))
  refine Gd.go (fun _ w_k => XS.aload X107.here hx rfl (hb hby at_215) rfl rfl w_k) ?_
  show Gd _ _ _ _ (T107.setTop (mkF m 217 #[.val (.long xx), .second, .val (.int sh), .val (.long (Int64.ofNat n)), .second, .val (.ref b1), .val (.int (Int32.ofNat k)), .val (.int (Int32.ofNat (k + (k - 1) / 3))), .val (.ref t)] [(.ref b1), (.long (Int64.ofNat n)), (.ref t)]))
  refine Gd.go (fun _ w_k => XS.iload X107.here hx rfl (hb hby at_217) rfl w_k) ?_
  show Gd _ _ _ _ (T107.setTop (mkF m 219 #[.val (.long xx), .second, .val (.int sh), .val (.long (Int64.ofNat n)), .second, .val (.ref b1), .val (.int (Int32.ofNat k)), .val (.int (Int32.ofNat (k + (k - 1) / 3))), .val (.ref t)] [(.int (Int32.ofNat (k + (k - 1) / 3))), (.ref b1), (.long (Int64.ofNat n)), (.ref t)]))
  refine Gd.go (fun _ w_k => XS.iconst X107.here hx rfl (hb hby at_219) w_k) ?_
  show Gd _ _ _ _ (T107.setTop (mkF m 220 #[.val (.long xx), .second, .val (.int sh), .val (.long (Int64.ofNat n)), .second, .val (.ref b1), .val (.int (Int32.ofNat k)), .val (.int (Int32.ofNat (k + (k - 1) / 3))), .val (.ref t)] [(.int (2 : Int32)), (.int (Int32.ofNat (k + (k - 1) / 3))), (.ref b1), (.long (Int64.ofNat n)), (.ref t)]))
  obtain ⟨T108, X108, e108, st108⟩ := own_callSP X107 hx hZ (y := (⟨"com/example/yuletally/yuletally/engine/DigitsGroupedPinLaw", "at", "(Ljava/lang/String;J[JII)Z"⟩ : MethodName)) hown (hw _ (List.mem_of_getElem? (i := 182) rfl)) (hw _ (List.mem_of_getElem? (i := 183) rfl)) (hw _ (List.mem_of_getElem? (i := 22) rfl)) (hw _ (List.mem_of_getElem? (i := 184) rfl)) (by decide) (W := 0) (own_c27 l Z a0 hw cs fv gv d1 d2 G T101.heap n0 O1 n k hn hk (k + (k - 1) / 3) rfl b1 xF102 t W HT 2 (by decide)) rfl rfl e107 (by decide) (by decide) (g := (mkF m 220 #[.val (.long xx), .second, .val (.int sh), .val (.long (Int64.ofNat n)), .second, .val (.ref b1), .val (.int (Int32.ofNat k)), .val (.int (Int32.ofNat (k + (k - 1) / 3))), .val (.ref t)] [(.int (2 : Int32)), (.int (Int32.ofNat (k + (k - 1) / 3))), (.ref b1), (.long (Int64.ofNat n)), (.ref t)])) rfl (by rw [hml]; rfl) (argsL := [(.ref t), (.long (Int64.ofNat n)), (.ref b1), (.int (Int32.ofNat (k + (k - 1) / 3))), (.int (2 : Int32))]) (rest := []) (lenOf own_pd26 rfl) rfl (Nat.le_of_eq rfl) (hb hby at_220) rfl
  refine Gd.go (fun _ w_k => st108 _ w_k) ?_
  show Gd _ _ _ _ (T108.setTop (mkF m 223 #[.val (.long xx), .second, .val (.int sh), .val (.long (Int64.ofNat n)), .second, .val (.ref b1), .val (.int (Int32.ofNat k)), .val (.int (Int32.ofNat (k + (k - 1) / 3))), .val (.ref t)] [(.int (1 : Int32))]))
  refine Gd.go (fun _ w_k => XS.ifNo X108.here hx rfl (hb hby at_223) rfl ((if0 _ _).trans (feq (by decide)).1) w_k) ?_
  show Gd _ _ _ _ (T108.setTop (mkF m 226 #[.val (.long xx), .second, .val (.int sh), .val (.long (Int64.ofNat n)), .second, .val (.ref b1), .val (.int (Int32.ofNat k)), .val (.int (Int32.ofNat (k + (k - 1) / 3))), .val (.ref t)] []))
  refine Gd.go (fun _ w_k => XS.aload X108.here hx rfl (hb hby at_226) rfl rfl w_k) ?_
  show Gd _ _ _ _ (T108.setTop (mkF m 228 #[.val (.long xx), .second, .val (.int sh), .val (.long (Int64.ofNat n)), .second, .val (.ref b1), .val (.int (Int32.ofNat k)), .val (.int (Int32.ofNat (k + (k - 1) / 3))), .val (.ref t)] [(.ref t)]))
  refine Gd.go (fun _ w_k => XS.lloadN X108.here hx rfl (hb hby at_228) rfl w_k) ?_
  show Gd _ _ _ _ (T108.setTop (mkF m 229 #[.val (.long xx), .second, .val (.int sh), .val (.long (Int64.ofNat n)), .second, .val (.ref b1), .val (.int (Int32.ofNat k)), .val (.int (Int32.ofNat (k + (k - 1) / 3))), .val (.ref t)] [(.long (Int64.ofNat n)), (.ref t)]))
  refine Gd.go (fun _ w_k => XS.aload X108.here hx rfl (hb hby at_229) rfl rfl w_k) ?_
  show Gd _ _ _ _ (T108.setTop (mkF m 231 #[.val (.long xx), .second, .val (.int sh), .val (.long (Int64.ofNat n)), .second, .val (.ref b1), .val (.int (Int32.ofNat k)), .val (.int (Int32.ofNat (k + (k - 1) / 3))), .val (.ref t)] [(.ref b1), (.long (Int64.ofNat n)), (.ref t)]))
  refine Gd.go (fun _ w_k => XS.iload X108.here hx rfl (hb hby at_231) rfl w_k) ?_
  show Gd _ _ _ _ (T108.setTop (mkF m 233 #[.val (.long xx), .second, .val (.int sh), .val (.long (Int64.ofNat n)), .second, .val (.ref b1), .val (.int (Int32.ofNat k)), .val (.int (Int32.ofNat (k + (k - 1) / 3))), .val (.ref t)] [(.int (Int32.ofNat (k + (k - 1) / 3))), (.ref b1), (.long (Int64.ofNat n)), (.ref t)]))
  refine Gd.go (fun _ w_k => XS.iconst X108.here hx rfl (hb hby at_233) w_k) ?_
  show Gd _ _ _ _ (T108.setTop (mkF m 234 #[.val (.long xx), .second, .val (.int sh), .val (.long (Int64.ofNat n)), .second, .val (.ref b1), .val (.int (Int32.ofNat k)), .val (.int (Int32.ofNat (k + (k - 1) / 3))), .val (.ref t)] [(.int (3 : Int32)), (.int (Int32.ofNat (k + (k - 1) / 3))), (.ref b1), (.long (Int64.ofNat n)), (.ref t)]))
  obtain ⟨T109, X109, e109, st109⟩ := own_callSP X108 hx hZ (y := (⟨"com/example/yuletally/yuletally/engine/DigitsGroupedPinLaw", "at", "(Ljava/lang/String;J[JII)Z"⟩ : MethodName)) hown (hw _ (List.mem_of_getElem? (i := 182) rfl)) (hw _ (List.mem_of_getElem? (i := 183) rfl)) (hw _ (List.mem_of_getElem? (i := 22) rfl)) (hw _ (List.mem_of_getElem? (i := 184) rfl)) (by decide) (W := 0) (own_c27 l Z a0 hw cs fv gv d1 d2 G T101.heap n0 O1 n k hn hk (k + (k - 1) / 3) rfl b1 xF102 t W HT 3 (by decide)) rfl rfl e108 (by decide) (by decide) (g := (mkF m 234 #[.val (.long xx), .second, .val (.int sh), .val (.long (Int64.ofNat n)), .second, .val (.ref b1), .val (.int (Int32.ofNat k)), .val (.int (Int32.ofNat (k + (k - 1) / 3))), .val (.ref t)] [(.int (3 : Int32)), (.int (Int32.ofNat (k + (k - 1) / 3))), (.ref b1), (.long (Int64.ofNat n)), (.ref t)])) rfl (by rw [hml]; rfl) (argsL := [(.ref t), (.long (Int64.ofNat n)), (.ref b1), (.int (Int32.ofNat (k + (k - 1) / 3))), (.int (3 : Int32))]) (rest := []) (lenOf own_pd26 rfl) rfl (Nat.le_of_eq rfl) (hb hby at_234) rfl
  refine Gd.go (fun _ w_k => st109 _ w_k) ?_
  show Gd _ _ _ _ (T109.setTop (mkF m 237 #[.val (.long xx), .second, .val (.int sh), .val (.long (Int64.ofNat n)), .second, .val (.ref b1), .val (.int (Int32.ofNat k)), .val (.int (Int32.ofNat (k + (k - 1) / 3))), .val (.ref t)] [(.int (1 : Int32))]))
  refine Gd.go (fun _ w_k => XS.ifNo X109.here hx rfl (hb hby at_237) rfl ((if0 _ _).trans (feq (by decide)).1) w_k) ?_
  show Gd _ _ _ _ (T109.setTop (mkF m 240 #[.val (.long xx), .second, .val (.int sh), .val (.long (Int64.ofNat n)), .second, .val (.ref b1), .val (.int (Int32.ofNat k)), .val (.int (Int32.ofNat (k + (k - 1) / 3))), .val (.ref t)] []))
  refine Gd.go (fun _ w_k => XS.aload X109.here hx rfl (hb hby at_240) rfl rfl w_k) ?_
  show Gd _ _ _ _ (T109.setTop (mkF m 242 #[.val (.long xx), .second, .val (.int sh), .val (.long (Int64.ofNat n)), .second, .val (.ref b1), .val (.int (Int32.ofNat k)), .val (.int (Int32.ofNat (k + (k - 1) / 3))), .val (.ref t)] [(.ref t)]))
  refine Gd.go (fun _ w_k => XS.lloadN X109.here hx rfl (hb hby at_242) rfl w_k) ?_
  show Gd _ _ _ _ (T109.setTop (mkF m 243 #[.val (.long xx), .second, .val (.int sh), .val (.long (Int64.ofNat n)), .second, .val (.ref b1), .val (.int (Int32.ofNat k)), .val (.int (Int32.ofNat (k + (k - 1) / 3))), .val (.ref t)] [(.long (Int64.ofNat n)), (.ref t)]))
  refine Gd.go (fun _ w_k => XS.aload X109.here hx rfl (hb hby at_243) rfl rfl w_k) ?_
  show Gd _ _ _ _ (T109.setTop (mkF m 245 #[.val (.long xx), .second, .val (.int sh), .val (.long (Int64.ofNat n)), .second, .val (.ref b1), .val (.int (Int32.ofNat k)), .val (.int (Int32.ofNat (k + (k - 1) / 3))), .val (.ref t)] [(.ref b1), (.long (Int64.ofNat n)), (.ref t)]))
  refine Gd.go (fun _ w_k => XS.iload X109.here hx rfl (hb hby at_245) rfl w_k) ?_
  show Gd _ _ _ _ (T109.setTop (mkF m 247 #[.val (.long xx), .second, .val (.int sh), .val (.long (Int64.ofNat n)), .second, .val (.ref b1), .val (.int (Int32.ofNat k)), .val (.int (Int32.ofNat (k + (k - 1) / 3))), .val (.ref t)] [(.int (Int32.ofNat (k + (k - 1) / 3))), (.ref b1), (.long (Int64.ofNat n)), (.ref t)]))
  refine Gd.go (fun _ w_k => XS.iconst X109.here hx rfl (hb hby at_247) w_k) ?_
  show Gd _ _ _ _ (T109.setTop (mkF m 248 #[.val (.long xx), .second, .val (.int sh), .val (.long (Int64.ofNat n)), .second, .val (.ref b1), .val (.int (Int32.ofNat k)), .val (.int (Int32.ofNat (k + (k - 1) / 3))), .val (.ref t)] [(.int (4 : Int32)), (.int (Int32.ofNat (k + (k - 1) / 3))), (.ref b1), (.long (Int64.ofNat n)), (.ref t)]))
  obtain ⟨T110, X110, e110, st110⟩ := own_callSP X109 hx hZ (y := (⟨"com/example/yuletally/yuletally/engine/DigitsGroupedPinLaw", "at", "(Ljava/lang/String;J[JII)Z"⟩ : MethodName)) hown (hw _ (List.mem_of_getElem? (i := 182) rfl)) (hw _ (List.mem_of_getElem? (i := 183) rfl)) (hw _ (List.mem_of_getElem? (i := 22) rfl)) (hw _ (List.mem_of_getElem? (i := 184) rfl)) (by decide) (W := 0) (own_c27 l Z a0 hw cs fv gv d1 d2 G T101.heap n0 O1 n k hn hk (k + (k - 1) / 3) rfl b1 xF102 t W HT 4 (by decide)) rfl rfl e109 (by decide) (by decide) (g := (mkF m 248 #[.val (.long xx), .second, .val (.int sh), .val (.long (Int64.ofNat n)), .second, .val (.ref b1), .val (.int (Int32.ofNat k)), .val (.int (Int32.ofNat (k + (k - 1) / 3))), .val (.ref t)] [(.int (4 : Int32)), (.int (Int32.ofNat (k + (k - 1) / 3))), (.ref b1), (.long (Int64.ofNat n)), (.ref t)])) rfl (by rw [hml]; rfl) (argsL := [(.ref t), (.long (Int64.ofNat n)), (.ref b1), (.int (Int32.ofNat (k + (k - 1) / 3))), (.int (4 : Int32))]) (rest := []) (lenOf own_pd26 rfl) rfl (Nat.le_of_eq rfl) (hb hby at_248) rfl
  refine Gd.go (fun _ w_k => st110 _ w_k) ?_
  show Gd _ _ _ _ (T110.setTop (mkF m 251 #[.val (.long xx), .second, .val (.int sh), .val (.long (Int64.ofNat n)), .second, .val (.ref b1), .val (.int (Int32.ofNat k)), .val (.int (Int32.ofNat (k + (k - 1) / 3))), .val (.ref t)] [(.int (1 : Int32))]))
  refine Gd.go (fun _ w_k => XS.ifNo X110.here hx rfl (hb hby at_251) rfl ((if0 _ _).trans (feq (by decide)).1) w_k) ?_
  show Gd _ _ _ _ (T110.setTop (mkF m 254 #[.val (.long xx), .second, .val (.int sh), .val (.long (Int64.ofNat n)), .second, .val (.ref b1), .val (.int (Int32.ofNat k)), .val (.int (Int32.ofNat (k + (k - 1) / 3))), .val (.ref t)] []))
  refine Gd.go (fun _ w_k => XS.aload X110.here hx rfl (hb hby at_254) rfl rfl w_k) ?_
  show Gd _ _ _ _ (T110.setTop (mkF m 256 #[.val (.long xx), .second, .val (.int sh), .val (.long (Int64.ofNat n)), .second, .val (.ref b1), .val (.int (Int32.ofNat k)), .val (.int (Int32.ofNat (k + (k - 1) / 3))), .val (.ref t)] [(.ref t)]))
  refine Gd.go (fun _ w_k => XS.lloadN X110.here hx rfl (hb hby at_256) rfl w_k) ?_
  show Gd _ _ _ _ (T110.setTop (mkF m 257 #[.val (.long xx), .second, .val (.int sh), .val (.long (Int64.ofNat n)), .second, .val (.ref b1), .val (.int (Int32.ofNat k)), .val (.int (Int32.ofNat (k + (k - 1) / 3))), .val (.ref t)] [(.long (Int64.ofNat n)), (.ref t)]))
  refine Gd.go (fun _ w_k => XS.aload X110.here hx rfl (hb hby at_257) rfl rfl w_k) ?_
  show Gd _ _ _ _ (T110.setTop (mkF m 259 #[.val (.long xx), .second, .val (.int sh), .val (.long (Int64.ofNat n)), .second, .val (.ref b1), .val (.int (Int32.ofNat k)), .val (.int (Int32.ofNat (k + (k - 1) / 3))), .val (.ref t)] [(.ref b1), (.long (Int64.ofNat n)), (.ref t)]))
  refine Gd.go (fun _ w_k => XS.iload X110.here hx rfl (hb hby at_259) rfl w_k) ?_
  show Gd _ _ _ _ (T110.setTop (mkF m 261 #[.val (.long xx), .second, .val (.int sh), .val (.long (Int64.ofNat n)), .second, .val (.ref b1), .val (.int (Int32.ofNat k)), .val (.int (Int32.ofNat (k + (k - 1) / 3))), .val (.ref t)] [(.int (Int32.ofNat (k + (k - 1) / 3))), (.ref b1), (.long (Int64.ofNat n)), (.ref t)]))
  refine Gd.go (fun _ w_k => XS.iconst X110.here hx rfl (hb hby at_261) w_k) ?_
  show Gd _ _ _ _ (T110.setTop (mkF m 262 #[.val (.long xx), .second, .val (.int sh), .val (.long (Int64.ofNat n)), .second, .val (.ref b1), .val (.int (Int32.ofNat k)), .val (.int (Int32.ofNat (k + (k - 1) / 3))), .val (.ref t)] [(.int (5 : Int32)), (.int (Int32.ofNat (k + (k - 1) / 3))), (.ref b1), (.long (Int64.ofNat n)), (.ref t)]))
  obtain ⟨T111, X111, e111, st111⟩ := own_callSP X110 hx hZ (y := (⟨"com/example/yuletally/yuletally/engine/DigitsGroupedPinLaw", "at", "(Ljava/lang/String;J[JII)Z"⟩ : MethodName)) hown (hw _ (List.mem_of_getElem? (i := 182) rfl)) (hw _ (List.mem_of_getElem? (i := 183) rfl)) (hw _ (List.mem_of_getElem? (i := 22) rfl)) (hw _ (List.mem_of_getElem? (i := 184) rfl)) (by decide) (W := 0) (own_c27 l Z a0 hw cs fv gv d1 d2 G T101.heap n0 O1 n k hn hk (k + (k - 1) / 3) rfl b1 xF102 t W HT 5 (by decide)) rfl rfl e110 (by decide) (by decide) (g := (mkF m 262 #[.val (.long xx), .second, .val (.int sh), .val (.long (Int64.ofNat n)), .second, .val (.ref b1), .val (.int (Int32.ofNat k)), .val (.int (Int32.ofNat (k + (k - 1) / 3))), .val (.ref t)] [(.int (5 : Int32)), (.int (Int32.ofNat (k + (k - 1) / 3))), (.ref b1), (.long (Int64.ofNat n)), (.ref t)])) rfl (by rw [hml]; rfl) (argsL := [(.ref t), (.long (Int64.ofNat n)), (.ref b1), (.int (Int32.ofNat (k + (k - 1) / 3))), (.int (5 : Int32))]) (rest := []) (lenOf own_pd26 rfl) rfl (Nat.le_of_eq rfl) (hb hby at_262) rfl
  refine Gd.go (fun _ w_k => st111 _ w_k) ?_
  show Gd _ _ _ _ (T111.setTop (mkF m 265 #[.val (.long xx), .second, .val (.int sh), .val (.long (Int64.ofNat n)), .second, .val (.ref b1), .val (.int (Int32.ofNat k)), .val (.int (Int32.ofNat (k + (k - 1) / 3))), .val (.ref t)] [(.int (1 : Int32))]))
  refine Gd.go (fun _ w_k => XS.ifNo X111.here hx rfl (hb hby at_265) rfl ((if0 _ _).trans (feq (by decide)).1) w_k) ?_
  show Gd _ _ _ _ (T111.setTop (mkF m 268 #[.val (.long xx), .second, .val (.int sh), .val (.long (Int64.ofNat n)), .second, .val (.ref b1), .val (.int (Int32.ofNat k)), .val (.int (Int32.ofNat (k + (k - 1) / 3))), .val (.ref t)] []))
  refine Gd.go (fun _ w_k => XS.aload X111.here hx rfl (hb hby at_268) rfl rfl w_k) ?_
  show Gd _ _ _ _ (T111.setTop (mkF m 270 #[.val (.long xx), .second, .val (.int sh), .val (.long (Int64.ofNat n)), .second, .val (.ref b1), .val (.int (Int32.ofNat k)), .val (.int (Int32.ofNat (k + (k - 1) / 3))), .val (.ref t)] [(.ref t)]))
  refine Gd.go (fun _ w_k => XS.lloadN X111.here hx rfl (hb hby at_270) rfl w_k) ?_
  show Gd _ _ _ _ (T111.setTop (mkF m 271 #[.val (.long xx), .second, .val (.int sh), .val (.long (Int64.ofNat n)), .second, .val (.ref b1), .val (.int (Int32.ofNat k)), .val (.int (Int32.ofNat (k + (k - 1) / 3))), .val (.ref t)] [(.long (Int64.ofNat n)), (.ref t)]))
  refine Gd.go (fun _ w_k => XS.aload X111.here hx rfl (hb hby at_271) rfl rfl w_k) ?_
  show Gd _ _ _ _ (T111.setTop (mkF m 273 #[.val (.long xx), .second, .val (.int sh), .val (.long (Int64.ofNat n)), .second, .val (.ref b1), .val (.int (Int32.ofNat k)), .val (.int (Int32.ofNat (k + (k - 1) / 3))), .val (.ref t)] [(.ref b1), (.long (Int64.ofNat n)), (.ref t)]))
  refine Gd.go (fun _ w_k => XS.iload X111.here hx rfl (hb hby at_273) rfl w_k) ?_
  show Gd _ _ _ _ (T111.setTop (mkF m 275 #[.val (.long xx), .second, .val (.int sh), .val (.long (Int64.ofNat n)), .second, .val (.ref b1), .val (.int (Int32.ofNat k)), .val (.int (Int32.ofNat (k + (k - 1) / 3))), .val (.ref t)] [(.int (Int32.ofNat (k + (k - 1) / 3))), (.ref b1), (.long (Int64.ofNat n)), (.ref t)]))
  refine Gd.go (fun _ w_k => XS.bipush X111.here hx rfl (hb hby at_275) w_k) ?_
  show Gd _ _ _ _ (T111.setTop (mkF m 277 #[.val (.long xx), .second, .val (.int sh), .val (.long (Int64.ofNat n)), .second, .val (.ref b1), .val (.int (Int32.ofNat k)), .val (.int (Int32.ofNat (k + (k - 1) / 3))), .val (.ref t)] [(.int (6 : Int32)), (.int (Int32.ofNat (k + (k - 1) / 3))), (.ref b1), (.long (Int64.ofNat n)), (.ref t)]))
  obtain ⟨T112, X112, e112, st112⟩ := own_callSP X111 hx hZ (y := (⟨"com/example/yuletally/yuletally/engine/DigitsGroupedPinLaw", "at", "(Ljava/lang/String;J[JII)Z"⟩ : MethodName)) hown (hw _ (List.mem_of_getElem? (i := 182) rfl)) (hw _ (List.mem_of_getElem? (i := 183) rfl)) (hw _ (List.mem_of_getElem? (i := 22) rfl)) (hw _ (List.mem_of_getElem? (i := 184) rfl)) (by decide) (W := 0) (own_c27 l Z a0 hw cs fv gv d1 d2 G T101.heap n0 O1 n k hn hk (k + (k - 1) / 3) rfl b1 xF102 t W HT 6 (by decide)) rfl rfl e111 (by decide) (by decide) (g := (mkF m 277 #[.val (.long xx), .second, .val (.int sh), .val (.long (Int64.ofNat n)), .second, .val (.ref b1), .val (.int (Int32.ofNat k)), .val (.int (Int32.ofNat (k + (k - 1) / 3))), .val (.ref t)] [(.int (6 : Int32)), (.int (Int32.ofNat (k + (k - 1) / 3))), (.ref b1), (.long (Int64.ofNat n)), (.ref t)])) rfl (by rw [hml]; rfl) (argsL := [(.ref t), (.long (Int64.ofNat n)), (.ref b1), (.int (Int32.ofNat (k + (k - 1) / 3))), (.int (6 : Int32))]) (rest := []) (lenOf own_pd26 rfl) rfl (Nat.le_of_eq rfl) (hb hby at_277) rfl
  refine Gd.go (fun _ w_k => st112 _ w_k) ?_
  show Gd _ _ _ _ (T112.setTop (mkF m 280 #[.val (.long xx), .second, .val (.int sh), .val (.long (Int64.ofNat n)), .second, .val (.ref b1), .val (.int (Int32.ofNat k)), .val (.int (Int32.ofNat (k + (k - 1) / 3))), .val (.ref t)] [(.int (1 : Int32))]))
  refine Gd.go (fun _ w_k => XS.ifNo X112.here hx rfl (hb hby at_280) rfl ((if0 _ _).trans (feq (by decide)).1) w_k) ?_
  show Gd _ _ _ _ (T112.setTop (mkF m 283 #[.val (.long xx), .second, .val (.int sh), .val (.long (Int64.ofNat n)), .second, .val (.ref b1), .val (.int (Int32.ofNat k)), .val (.int (Int32.ofNat (k + (k - 1) / 3))), .val (.ref t)] []))
  refine Gd.go (fun _ w_k => XS.aload X112.here hx rfl (hb hby at_283) rfl rfl w_k) ?_
  show Gd _ _ _ _ (T112.setTop (mkF m 285 #[.val (.long xx), .second, .val (.int sh), .val (.long (Int64.ofNat n)), .second, .val (.ref b1), .val (.int (Int32.ofNat k)), .val (.int (Int32.ofNat (k + (k - 1) / 3))), .val (.ref t)] [(.ref t)]))
  refine Gd.go (fun _ w_k => XS.lloadN X112.here hx rfl (hb hby at_285) rfl w_k) ?_
  show Gd _ _ _ _ (T112.setTop (mkF m 286 #[.val (.long xx), .second, .val (.int sh), .val (.long (Int64.ofNat n)), .second, .val (.ref b1), .val (.int (Int32.ofNat k)), .val (.int (Int32.ofNat (k + (k - 1) / 3))), .val (.ref t)] [(.long (Int64.ofNat n)), (.ref t)]))
  refine Gd.go (fun _ w_k => XS.aload X112.here hx rfl (hb hby at_286) rfl rfl w_k) ?_
  show Gd _ _ _ _ (T112.setTop (mkF m 288 #[.val (.long xx), .second, .val (.int sh), .val (.long (Int64.ofNat n)), .second, .val (.ref b1), .val (.int (Int32.ofNat k)), .val (.int (Int32.ofNat (k + (k - 1) / 3))), .val (.ref t)] [(.ref b1), (.long (Int64.ofNat n)), (.ref t)]))
  refine Gd.go (fun _ w_k => XS.iload X112.here hx rfl (hb hby at_288) rfl w_k) ?_
  show Gd _ _ _ _ (T112.setTop (mkF m 290 #[.val (.long xx), .second, .val (.int sh), .val (.long (Int64.ofNat n)), .second, .val (.ref b1), .val (.int (Int32.ofNat k)), .val (.int (Int32.ofNat (k + (k - 1) / 3))), .val (.ref t)] [(.int (Int32.ofNat (k + (k - 1) / 3))), (.ref b1), (.long (Int64.ofNat n)), (.ref t)]))
  refine Gd.go (fun _ w_k => XS.bipush X112.here hx rfl (hb hby at_290) w_k) ?_
  show Gd _ _ _ _ (T112.setTop (mkF m 292 #[.val (.long xx), .second, .val (.int sh), .val (.long (Int64.ofNat n)), .second, .val (.ref b1), .val (.int (Int32.ofNat k)), .val (.int (Int32.ofNat (k + (k - 1) / 3))), .val (.ref t)] [(.int (7 : Int32)), (.int (Int32.ofNat (k + (k - 1) / 3))), (.ref b1), (.long (Int64.ofNat n)), (.ref t)]))
  obtain ⟨T113, X113, e113, st113⟩ := own_callSP X112 hx hZ (y := (⟨"com/example/yuletally/yuletally/engine/DigitsGroupedPinLaw", "at", "(Ljava/lang/String;J[JII)Z"⟩ : MethodName)) hown (hw _ (List.mem_of_getElem? (i := 182) rfl)) (hw _ (List.mem_of_getElem? (i := 183) rfl)) (hw _ (List.mem_of_getElem? (i := 22) rfl)) (hw _ (List.mem_of_getElem? (i := 184) rfl)) (by decide) (W := 0) (own_c27 l Z a0 hw cs fv gv d1 d2 G T101.heap n0 O1 n k hn hk (k + (k - 1) / 3) rfl b1 xF102 t W HT 7 (by decide)) rfl rfl e112 (by decide) (by decide) (g := (mkF m 292 #[.val (.long xx), .second, .val (.int sh), .val (.long (Int64.ofNat n)), .second, .val (.ref b1), .val (.int (Int32.ofNat k)), .val (.int (Int32.ofNat (k + (k - 1) / 3))), .val (.ref t)] [(.int (7 : Int32)), (.int (Int32.ofNat (k + (k - 1) / 3))), (.ref b1), (.long (Int64.ofNat n)), (.ref t)])) rfl (by rw [hml]; rfl) (argsL := [(.ref t), (.long (Int64.ofNat n)), (.ref b1), (.int (Int32.ofNat (k + (k - 1) / 3))), (.int (7 : Int32))]) (rest := []) (lenOf own_pd26 rfl) rfl (Nat.le_of_eq rfl) (hb hby at_292) rfl
  refine Gd.go (fun _ w_k => st113 _ w_k) ?_
  show Gd _ _ _ _ (T113.setTop (mkF m 295 #[.val (.long xx), .second, .val (.int sh), .val (.long (Int64.ofNat n)), .second, .val (.ref b1), .val (.int (Int32.ofNat k)), .val (.int (Int32.ofNat (k + (k - 1) / 3))), .val (.ref t)] [(.int (1 : Int32))]))
  refine Gd.go (fun _ w_k => XS.ifNo X113.here hx rfl (hb hby at_295) rfl ((if0 _ _).trans (feq (by decide)).1) w_k) ?_
  show Gd _ _ _ _ (T113.setTop (mkF m 298 #[.val (.long xx), .second, .val (.int sh), .val (.long (Int64.ofNat n)), .second, .val (.ref b1), .val (.int (Int32.ofNat k)), .val (.int (Int32.ofNat (k + (k - 1) / 3))), .val (.ref t)] []))
  refine Gd.go (fun _ w_k => XS.aload X113.here hx rfl (hb hby at_298) rfl rfl w_k) ?_
  show Gd _ _ _ _ (T113.setTop (mkF m 300 #[.val (.long xx), .second, .val (.int sh), .val (.long (Int64.ofNat n)), .second, .val (.ref b1), .val (.int (Int32.ofNat k)), .val (.int (Int32.ofNat (k + (k - 1) / 3))), .val (.ref t)] [(.ref t)]))
  refine Gd.go (fun _ w_k => XS.lloadN X113.here hx rfl (hb hby at_300) rfl w_k) ?_
  show Gd _ _ _ _ (T113.setTop (mkF m 301 #[.val (.long xx), .second, .val (.int sh), .val (.long (Int64.ofNat n)), .second, .val (.ref b1), .val (.int (Int32.ofNat k)), .val (.int (Int32.ofNat (k + (k - 1) / 3))), .val (.ref t)] [(.long (Int64.ofNat n)), (.ref t)]))
  refine Gd.go (fun _ w_k => XS.aload X113.here hx rfl (hb hby at_301) rfl rfl w_k) ?_
  show Gd _ _ _ _ (T113.setTop (mkF m 303 #[.val (.long xx), .second, .val (.int sh), .val (.long (Int64.ofNat n)), .second, .val (.ref b1), .val (.int (Int32.ofNat k)), .val (.int (Int32.ofNat (k + (k - 1) / 3))), .val (.ref t)] [(.ref b1), (.long (Int64.ofNat n)), (.ref t)]))
  refine Gd.go (fun _ w_k => XS.iload X113.here hx rfl (hb hby at_303) rfl w_k) ?_
  show Gd _ _ _ _ (T113.setTop (mkF m 305 #[.val (.long xx), .second, .val (.int sh), .val (.long (Int64.ofNat n)), .second, .val (.ref b1), .val (.int (Int32.ofNat k)), .val (.int (Int32.ofNat (k + (k - 1) / 3))), .val (.ref t)] [(.int (Int32.ofNat (k + (k - 1) / 3))), (.ref b1), (.long (Int64.ofNat n)), (.ref t)]))
  refine Gd.go (fun _ w_k => XS.bipush X113.here hx rfl (hb hby at_305) w_k) ?_
  show Gd _ _ _ _ (T113.setTop (mkF m 307 #[.val (.long xx), .second, .val (.int sh), .val (.long (Int64.ofNat n)), .second, .val (.ref b1), .val (.int (Int32.ofNat k)), .val (.int (Int32.ofNat (k + (k - 1) / 3))), .val (.ref t)] [(.int (8 : Int32)), (.int (Int32.ofNat (k + (k - 1) / 3))), (.ref b1), (.long (Int64.ofNat n)), (.ref t)]))
  obtain ⟨T114, X114, e114, st114⟩ := own_callSP X113 hx hZ (y := (⟨"com/example/yuletally/yuletally/engine/DigitsGroupedPinLaw", "at", "(Ljava/lang/String;J[JII)Z"⟩ : MethodName)) hown (hw _ (List.mem_of_getElem? (i := 182) rfl)) (hw _ (List.mem_of_getElem? (i := 183) rfl)) (hw _ (List.mem_of_getElem? (i := 22) rfl)) (hw _ (List.mem_of_getElem? (i := 184) rfl)) (by decide) (W := 0) (own_c27 l Z a0 hw cs fv gv d1 d2 G T101.heap n0 O1 n k hn hk (k + (k - 1) / 3) rfl b1 xF102 t W HT 8 (by decide)) rfl rfl e113 (by decide) (by decide) (g := (mkF m 307 #[.val (.long xx), .second, .val (.int sh), .val (.long (Int64.ofNat n)), .second, .val (.ref b1), .val (.int (Int32.ofNat k)), .val (.int (Int32.ofNat (k + (k - 1) / 3))), .val (.ref t)] [(.int (8 : Int32)), (.int (Int32.ofNat (k + (k - 1) / 3))), (.ref b1), (.long (Int64.ofNat n)), (.ref t)])) rfl (by rw [hml]; rfl) (argsL := [(.ref t), (.long (Int64.ofNat n)), (.ref b1), (.int (Int32.ofNat (k + (k - 1) / 3))), (.int (8 : Int32))]) (rest := []) (lenOf own_pd26 rfl) rfl (Nat.le_of_eq rfl) (hb hby at_307) rfl
  refine Gd.go (fun _ w_k => st114 _ w_k) ?_
  show Gd _ _ _ _ (T114.setTop (mkF m 310 #[.val (.long xx), .second, .val (.int sh), .val (.long (Int64.ofNat n)), .second, .val (.ref b1), .val (.int (Int32.ofNat k)), .val (.int (Int32.ofNat (k + (k - 1) / 3))), .val (.ref t)] [(.int (1 : Int32))]))
  refine Gd.go (fun _ w_k => XS.ifNo X114.here hx rfl (hb hby at_310) rfl ((if0 _ _).trans (feq (by decide)).1) w_k) ?_
  show Gd _ _ _ _ (T114.setTop (mkF m 313 #[.val (.long xx), .second, .val (.int sh), .val (.long (Int64.ofNat n)), .second, .val (.ref b1), .val (.int (Int32.ofNat k)), .val (.int (Int32.ofNat (k + (k - 1) / 3))), .val (.ref t)] []))
  refine Gd.go (fun _ w_k => XS.aload X114.here hx rfl (hb hby at_313) rfl rfl w_k) ?_
  show Gd _ _ _ _ (T114.setTop (mkF m 315 #[.val (.long xx), .second, .val (.int sh), .val (.long (Int64.ofNat n)), .second, .val (.ref b1), .val (.int (Int32.ofNat k)), .val (.int (Int32.ofNat (k + (k - 1) / 3))), .val (.ref t)] [(.ref t)]))
  refine Gd.go (fun _ w_k => XS.lloadN X114.here hx rfl (hb hby at_315) rfl w_k) ?_
  show Gd _ _ _ _ (T114.setTop (mkF m 316 #[.val (.long xx), .second, .val (.int sh), .val (.long (Int64.ofNat n)), .second, .val (.ref b1), .val (.int (Int32.ofNat k)), .val (.int (Int32.ofNat (k + (k - 1) / 3))), .val (.ref t)] [(.long (Int64.ofNat n)), (.ref t)]))
  refine Gd.go (fun _ w_k => XS.aload X114.here hx rfl (hb hby at_316) rfl rfl w_k) ?_
  show Gd _ _ _ _ (T114.setTop (mkF m 318 #[.val (.long xx), .second, .val (.int sh), .val (.long (Int64.ofNat n)), .second, .val (.ref b1), .val (.int (Int32.ofNat k)), .val (.int (Int32.ofNat (k + (k - 1) / 3))), .val (.ref t)] [(.ref b1), (.long (Int64.ofNat n)), (.ref t)]))
  refine Gd.go (fun _ w_k => XS.iload X114.here hx rfl (hb hby at_318) rfl w_k) ?_
  show Gd _ _ _ _ (T114.setTop (mkF m 320 #[.val (.long xx), .second, .val (.int sh), .val (.long (Int64.ofNat n)), .second, .val (.ref b1), .val (.int (Int32.ofNat k)), .val (.int (Int32.ofNat (k + (k - 1) / 3))), .val (.ref t)] [(.int (Int32.ofNat (k + (k - 1) / 3))), (.ref b1), (.long (Int64.ofNat n)), (.ref t)]))
  refine Gd.go (fun _ w_k => XS.bipush X114.here hx rfl (hb hby at_320) w_k) ?_
  show Gd _ _ _ _ (T114.setTop (mkF m 322 #[.val (.long xx), .second, .val (.int sh), .val (.long (Int64.ofNat n)), .second, .val (.ref b1), .val (.int (Int32.ofNat k)), .val (.int (Int32.ofNat (k + (k - 1) / 3))), .val (.ref t)] [(.int (9 : Int32)), (.int (Int32.ofNat (k + (k - 1) / 3))), (.ref b1), (.long (Int64.ofNat n)), (.ref t)]))
  obtain ⟨T115, X115, e115, st115⟩ := own_callSP X114 hx hZ (y := (⟨"com/example/yuletally/yuletally/engine/DigitsGroupedPinLaw", "at", "(Ljava/lang/String;J[JII)Z"⟩ : MethodName)) hown (hw _ (List.mem_of_getElem? (i := 182) rfl)) (hw _ (List.mem_of_getElem? (i := 183) rfl)) (hw _ (List.mem_of_getElem? (i := 22) rfl)) (hw _ (List.mem_of_getElem? (i := 184) rfl)) (by decide) (W := 0) (own_c27 l Z a0 hw cs fv gv d1 d2 G T101.heap n0 O1 n k hn hk (k + (k - 1) / 3) rfl b1 xF102 t W HT 9 (by decide)) rfl rfl e114 (by decide) (by decide) (g := (mkF m 322 #[.val (.long xx), .second, .val (.int sh), .val (.long (Int64.ofNat n)), .second, .val (.ref b1), .val (.int (Int32.ofNat k)), .val (.int (Int32.ofNat (k + (k - 1) / 3))), .val (.ref t)] [(.int (9 : Int32)), (.int (Int32.ofNat (k + (k - 1) / 3))), (.ref b1), (.long (Int64.ofNat n)), (.ref t)])) rfl (by rw [hml]; rfl) (argsL := [(.ref t), (.long (Int64.ofNat n)), (.ref b1), (.int (Int32.ofNat (k + (k - 1) / 3))), (.int (9 : Int32))]) (rest := []) (lenOf own_pd26 rfl) rfl (Nat.le_of_eq rfl) (hb hby at_322) rfl
  refine Gd.go (fun _ w_k => st115 _ w_k) ?_
  show Gd _ _ _ _ (T115.setTop (mkF m 325 #[.val (.long xx), .second, .val (.int sh), .val (.long (Int64.ofNat n)), .second, .val (.ref b1), .val (.int (Int32.ofNat k)), .val (.int (Int32.ofNat (k + (k - 1) / 3))), .val (.ref t)] [(.int (1 : Int32))]))
  refine Gd.go (fun _ w_k => XS.ifNo X115.here hx rfl (hb hby at_325) rfl ((if0 _ _).trans (feq (by decide)).1) w_k) ?_
  show Gd _ _ _ _ (T115.setTop (mkF m 328 #[.val (.long xx), .second, .val (.int sh), .val (.long (Int64.ofNat n)), .second, .val (.ref b1), .val (.int (Int32.ofNat k)), .val (.int (Int32.ofNat (k + (k - 1) / 3))), .val (.ref t)] []))
  refine Gd.go (fun _ w_k => XS.aload X115.here hx rfl (hb hby at_328) rfl rfl w_k) ?_
  show Gd _ _ _ _ (T115.setTop (mkF m 330 #[.val (.long xx), .second, .val (.int sh), .val (.long (Int64.ofNat n)), .second, .val (.ref b1), .val (.int (Int32.ofNat k)), .val (.int (Int32.ofNat (k + (k - 1) / 3))), .val (.ref t)] [(.ref t)]))
  refine Gd.go (fun _ w_k => XS.lloadN X115.here hx rfl (hb hby at_330) rfl w_k) ?_
  show Gd _ _ _ _ (T115.setTop (mkF m 331 #[.val (.long xx), .second, .val (.int sh), .val (.long (Int64.ofNat n)), .second, .val (.ref b1), .val (.int (Int32.ofNat k)), .val (.int (Int32.ofNat (k + (k - 1) / 3))), .val (.ref t)] [(.long (Int64.ofNat n)), (.ref t)]))
  refine Gd.go (fun _ w_k => XS.aload X115.here hx rfl (hb hby at_331) rfl rfl w_k) ?_
  show Gd _ _ _ _ (T115.setTop (mkF m 333 #[.val (.long xx), .second, .val (.int sh), .val (.long (Int64.ofNat n)), .second, .val (.ref b1), .val (.int (Int32.ofNat k)), .val (.int (Int32.ofNat (k + (k - 1) / 3))), .val (.ref t)] [(.ref b1), (.long (Int64.ofNat n)), (.ref t)]))
  refine Gd.go (fun _ w_k => XS.iload X115.here hx rfl (hb hby at_333) rfl w_k) ?_
  show Gd _ _ _ _ (T115.setTop (mkF m 335 #[.val (.long xx), .second, .val (.int sh), .val (.long (Int64.ofNat n)), .second, .val (.ref b1), .val (.int (Int32.ofNat k)), .val (.int (Int32.ofNat (k + (k - 1) / 3))), .val (.ref t)] [(.int (Int32.ofNat (k + (k - 1) / 3))), (.ref b1), (.long (Int64.ofNat n)), (.ref t)]))
  refine Gd.go (fun _ w_k => XS.bipush X115.here hx rfl (hb hby at_335) w_k) ?_
  show Gd _ _ _ _ (T115.setTop (mkF m 337 #[.val (.long xx), .second, .val (.int sh), .val (.long (Int64.ofNat n)), .second, .val (.ref b1), .val (.int (Int32.ofNat k)), .val (.int (Int32.ofNat (k + (k - 1) / 3))), .val (.ref t)] [(.int (10 : Int32)), (.int (Int32.ofNat (k + (k - 1) / 3))), (.ref b1), (.long (Int64.ofNat n)), (.ref t)]))
  obtain ⟨T116, X116, e116, st116⟩ := own_callSP X115 hx hZ (y := (⟨"com/example/yuletally/yuletally/engine/DigitsGroupedPinLaw", "at", "(Ljava/lang/String;J[JII)Z"⟩ : MethodName)) hown (hw _ (List.mem_of_getElem? (i := 182) rfl)) (hw _ (List.mem_of_getElem? (i := 183) rfl)) (hw _ (List.mem_of_getElem? (i := 22) rfl)) (hw _ (List.mem_of_getElem? (i := 184) rfl)) (by decide) (W := 0) (own_c27 l Z a0 hw cs fv gv d1 d2 G T101.heap n0 O1 n k hn hk (k + (k - 1) / 3) rfl b1 xF102 t W HT 10 (by decide)) rfl rfl e115 (by decide) (by decide) (g := (mkF m 337 #[.val (.long xx), .second, .val (.int sh), .val (.long (Int64.ofNat n)), .second, .val (.ref b1), .val (.int (Int32.ofNat k)), .val (.int (Int32.ofNat (k + (k - 1) / 3))), .val (.ref t)] [(.int (10 : Int32)), (.int (Int32.ofNat (k + (k - 1) / 3))), (.ref b1), (.long (Int64.ofNat n)), (.ref t)])) rfl (by rw [hml]; rfl) (argsL := [(.ref t), (.long (Int64.ofNat n)), (.ref b1), (.int (Int32.ofNat (k + (k - 1) / 3))), (.int (10 : Int32))]) (rest := []) (lenOf own_pd26 rfl) rfl (Nat.le_of_eq rfl) (hb hby at_337) rfl
  refine Gd.go (fun _ w_k => st116 _ w_k) ?_
  show Gd _ _ _ _ (T116.setTop (mkF m 340 #[.val (.long xx), .second, .val (.int sh), .val (.long (Int64.ofNat n)), .second, .val (.ref b1), .val (.int (Int32.ofNat k)), .val (.int (Int32.ofNat (k + (k - 1) / 3))), .val (.ref t)] [(.int (1 : Int32))]))
  refine Gd.go (fun _ w_k => XS.ifNo X116.here hx rfl (hb hby at_340) rfl ((if0 _ _).trans (feq (by decide)).1) w_k) ?_
  show Gd _ _ _ _ (T116.setTop (mkF m 343 #[.val (.long xx), .second, .val (.int sh), .val (.long (Int64.ofNat n)), .second, .val (.ref b1), .val (.int (Int32.ofNat k)), .val (.int (Int32.ofNat (k + (k - 1) / 3))), .val (.ref t)] []))
  refine Gd.go (fun _ w_k => XS.aload X116.here hx rfl (hb hby at_343) rfl rfl w_k) ?_
  show Gd _ _ _ _ (T116.setTop (mkF m 345 #[.val (.long xx), .second, .val (.int sh), .val (.long (Int64.ofNat n)), .second, .val (.ref b1), .val (.int (Int32.ofNat k)), .val (.int (Int32.ofNat (k + (k - 1) / 3))), .val (.ref t)] [(.ref t)]))
  refine Gd.go (fun _ w_k => XS.lloadN X116.here hx rfl (hb hby at_345) rfl w_k) ?_
  show Gd _ _ _ _ (T116.setTop (mkF m 346 #[.val (.long xx), .second, .val (.int sh), .val (.long (Int64.ofNat n)), .second, .val (.ref b1), .val (.int (Int32.ofNat k)), .val (.int (Int32.ofNat (k + (k - 1) / 3))), .val (.ref t)] [(.long (Int64.ofNat n)), (.ref t)]))
  refine Gd.go (fun _ w_k => XS.aload X116.here hx rfl (hb hby at_346) rfl rfl w_k) ?_
  show Gd _ _ _ _ (T116.setTop (mkF m 348 #[.val (.long xx), .second, .val (.int sh), .val (.long (Int64.ofNat n)), .second, .val (.ref b1), .val (.int (Int32.ofNat k)), .val (.int (Int32.ofNat (k + (k - 1) / 3))), .val (.ref t)] [(.ref b1), (.long (Int64.ofNat n)), (.ref t)]))
  refine Gd.go (fun _ w_k => XS.iload X116.here hx rfl (hb hby at_348) rfl w_k) ?_
  show Gd _ _ _ _ (T116.setTop (mkF m 350 #[.val (.long xx), .second, .val (.int sh), .val (.long (Int64.ofNat n)), .second, .val (.ref b1), .val (.int (Int32.ofNat k)), .val (.int (Int32.ofNat (k + (k - 1) / 3))), .val (.ref t)] [(.int (Int32.ofNat (k + (k - 1) / 3))), (.ref b1), (.long (Int64.ofNat n)), (.ref t)]))
  refine Gd.go (fun _ w_k => XS.bipush X116.here hx rfl (hb hby at_350) w_k) ?_
  show Gd _ _ _ _ (T116.setTop (mkF m 352 #[.val (.long xx), .second, .val (.int sh), .val (.long (Int64.ofNat n)), .second, .val (.ref b1), .val (.int (Int32.ofNat k)), .val (.int (Int32.ofNat (k + (k - 1) / 3))), .val (.ref t)] [(.int (11 : Int32)), (.int (Int32.ofNat (k + (k - 1) / 3))), (.ref b1), (.long (Int64.ofNat n)), (.ref t)]))
  obtain ⟨T117, X117, e117, st117⟩ := own_callSP X116 hx hZ (y := (⟨"com/example/yuletally/yuletally/engine/DigitsGroupedPinLaw", "at", "(Ljava/lang/String;J[JII)Z"⟩ : MethodName)) hown (hw _ (List.mem_of_getElem? (i := 182) rfl)) (hw _ (List.mem_of_getElem? (i := 183) rfl)) (hw _ (List.mem_of_getElem? (i := 22) rfl)) (hw _ (List.mem_of_getElem? (i := 184) rfl)) (by decide) (W := 0) (own_c27 l Z a0 hw cs fv gv d1 d2 G T101.heap n0 O1 n k hn hk (k + (k - 1) / 3) rfl b1 xF102 t W HT 11 (by decide)) rfl rfl e116 (by decide) (by decide) (g := (mkF m 352 #[.val (.long xx), .second, .val (.int sh), .val (.long (Int64.ofNat n)), .second, .val (.ref b1), .val (.int (Int32.ofNat k)), .val (.int (Int32.ofNat (k + (k - 1) / 3))), .val (.ref t)] [(.int (11 : Int32)), (.int (Int32.ofNat (k + (k - 1) / 3))), (.ref b1), (.long (Int64.ofNat n)), (.ref t)])) rfl (by rw [hml]; rfl) (argsL := [(.ref t), (.long (Int64.ofNat n)), (.ref b1), (.int (Int32.ofNat (k + (k - 1) / 3))), (.int (11 : Int32))]) (rest := []) (lenOf own_pd26 rfl) rfl (Nat.le_of_eq rfl) (hb hby at_352) rfl
  refine Gd.go (fun _ w_k => st117 _ w_k) ?_
  show Gd _ _ _ _ (T117.setTop (mkF m 355 #[.val (.long xx), .second, .val (.int sh), .val (.long (Int64.ofNat n)), .second, .val (.ref b1), .val (.int (Int32.ofNat k)), .val (.int (Int32.ofNat (k + (k - 1) / 3))), .val (.ref t)] [(.int (1 : Int32))]))
  refine Gd.go (fun _ w_k => XS.ifNo X117.here hx rfl (hb hby at_355) rfl ((if0 _ _).trans (feq (by decide)).1) w_k) ?_
  show Gd _ _ _ _ (T117.setTop (mkF m 358 #[.val (.long xx), .second, .val (.int sh), .val (.long (Int64.ofNat n)), .second, .val (.ref b1), .val (.int (Int32.ofNat k)), .val (.int (Int32.ofNat (k + (k - 1) / 3))), .val (.ref t)] []))
  refine Gd.go (fun _ w_k => XS.aload X117.here hx rfl (hb hby at_358) rfl rfl w_k) ?_
  show Gd _ _ _ _ (T117.setTop (mkF m 360 #[.val (.long xx), .second, .val (.int sh), .val (.long (Int64.ofNat n)), .second, .val (.ref b1), .val (.int (Int32.ofNat k)), .val (.int (Int32.ofNat (k + (k - 1) / 3))), .val (.ref t)] [(.ref t)]))
  refine Gd.go (fun _ w_k => XS.lloadN X117.here hx rfl (hb hby at_360) rfl w_k) ?_
  show Gd _ _ _ _ (T117.setTop (mkF m 361 #[.val (.long xx), .second, .val (.int sh), .val (.long (Int64.ofNat n)), .second, .val (.ref b1), .val (.int (Int32.ofNat k)), .val (.int (Int32.ofNat (k + (k - 1) / 3))), .val (.ref t)] [(.long (Int64.ofNat n)), (.ref t)]))
  refine Gd.go (fun _ w_k => XS.aload X117.here hx rfl (hb hby at_361) rfl rfl w_k) ?_
  show Gd _ _ _ _ (T117.setTop (mkF m 363 #[.val (.long xx), .second, .val (.int sh), .val (.long (Int64.ofNat n)), .second, .val (.ref b1), .val (.int (Int32.ofNat k)), .val (.int (Int32.ofNat (k + (k - 1) / 3))), .val (.ref t)] [(.ref b1), (.long (Int64.ofNat n)), (.ref t)]))
  refine Gd.go (fun _ w_k => XS.iload X117.here hx rfl (hb hby at_363) rfl w_k) ?_
  show Gd _ _ _ _ (T117.setTop (mkF m 365 #[.val (.long xx), .second, .val (.int sh), .val (.long (Int64.ofNat n)), .second, .val (.ref b1), .val (.int (Int32.ofNat k)), .val (.int (Int32.ofNat (k + (k - 1) / 3))), .val (.ref t)] [(.int (Int32.ofNat (k + (k - 1) / 3))), (.ref b1), (.long (Int64.ofNat n)), (.ref t)]))
  refine Gd.go (fun _ w_k => XS.bipush X117.here hx rfl (hb hby at_365) w_k) ?_
  show Gd _ _ _ _ (T117.setTop (mkF m 367 #[.val (.long xx), .second, .val (.int sh), .val (.long (Int64.ofNat n)), .second, .val (.ref b1), .val (.int (Int32.ofNat k)), .val (.int (Int32.ofNat (k + (k - 1) / 3))), .val (.ref t)] [(.int (12 : Int32)), (.int (Int32.ofNat (k + (k - 1) / 3))), (.ref b1), (.long (Int64.ofNat n)), (.ref t)]))
  obtain ⟨T118, X118, e118, st118⟩ := own_callSP X117 hx hZ (y := (⟨"com/example/yuletally/yuletally/engine/DigitsGroupedPinLaw", "at", "(Ljava/lang/String;J[JII)Z"⟩ : MethodName)) hown (hw _ (List.mem_of_getElem? (i := 182) rfl)) (hw _ (List.mem_of_getElem? (i := 183) rfl)) (hw _ (List.mem_of_getElem? (i := 22) rfl)) (hw _ (List.mem_of_getElem? (i := 184) rfl)) (by decide) (W := 0) (own_c27 l Z a0 hw cs fv gv d1 d2 G T101.heap n0 O1 n k hn hk (k + (k - 1) / 3) rfl b1 xF102 t W HT 12 (by decide)) rfl rfl e117 (by decide) (by decide) (g := (mkF m 367 #[.val (.long xx), .second, .val (.int sh), .val (.long (Int64.ofNat n)), .second, .val (.ref b1), .val (.int (Int32.ofNat k)), .val (.int (Int32.ofNat (k + (k - 1) / 3))), .val (.ref t)] [(.int (12 : Int32)), (.int (Int32.ofNat (k + (k - 1) / 3))), (.ref b1), (.long (Int64.ofNat n)), (.ref t)])) rfl (by rw [hml]; rfl) (argsL := [(.ref t), (.long (Int64.ofNat n)), (.ref b1), (.int (Int32.ofNat (k + (k - 1) / 3))), (.int (12 : Int32))]) (rest := []) (lenOf own_pd26 rfl) rfl (Nat.le_of_eq rfl) (hb hby at_367) rfl
  refine Gd.go (fun _ w_k => st118 _ w_k) ?_
  show Gd _ _ _ _ (T118.setTop (mkF m 370 #[.val (.long xx), .second, .val (.int sh), .val (.long (Int64.ofNat n)), .second, .val (.ref b1), .val (.int (Int32.ofNat k)), .val (.int (Int32.ofNat (k + (k - 1) / 3))), .val (.ref t)] [(.int (1 : Int32))]))
  refine Gd.go (fun _ w_k => XS.ifNo X118.here hx rfl (hb hby at_370) rfl ((if0 _ _).trans (feq (by decide)).1) w_k) ?_
  show Gd _ _ _ _ (T118.setTop (mkF m 373 #[.val (.long xx), .second, .val (.int sh), .val (.long (Int64.ofNat n)), .second, .val (.ref b1), .val (.int (Int32.ofNat k)), .val (.int (Int32.ofNat (k + (k - 1) / 3))), .val (.ref t)] []))
  refine Gd.go (fun _ w_k => XS.aload X118.here hx rfl (hb hby at_373) rfl rfl w_k) ?_
  show Gd _ _ _ _ (T118.setTop (mkF m 375 #[.val (.long xx), .second, .val (.int sh), .val (.long (Int64.ofNat n)), .second, .val (.ref b1), .val (.int (Int32.ofNat k)), .val (.int (Int32.ofNat (k + (k - 1) / 3))), .val (.ref t)] [(.ref t)]))
  refine Gd.go (fun _ w_k => XS.lloadN X118.here hx rfl (hb hby at_375) rfl w_k) ?_
  show Gd _ _ _ _ (T118.setTop (mkF m 376 #[.val (.long xx), .second, .val (.int sh), .val (.long (Int64.ofNat n)), .second, .val (.ref b1), .val (.int (Int32.ofNat k)), .val (.int (Int32.ofNat (k + (k - 1) / 3))), .val (.ref t)] [(.long (Int64.ofNat n)), (.ref t)]))
  refine Gd.go (fun _ w_k => XS.aload X118.here hx rfl (hb hby at_376) rfl rfl w_k) ?_
  show Gd _ _ _ _ (T118.setTop (mkF m 378 #[.val (.long xx), .second, .val (.int sh), .val (.long (Int64.ofNat n)), .second, .val (.ref b1), .val (.int (Int32.ofNat k)), .val (.int (Int32.ofNat (k + (k - 1) / 3))), .val (.ref t)] [(.ref b1), (.long (Int64.ofNat n)), (.ref t)]))
  refine Gd.go (fun _ w_k => XS.iload X118.here hx rfl (hb hby at_378) rfl w_k) ?_
  show Gd _ _ _ _ (T118.setTop (mkF m 380 #[.val (.long xx), .second, .val (.int sh), .val (.long (Int64.ofNat n)), .second, .val (.ref b1), .val (.int (Int32.ofNat k)), .val (.int (Int32.ofNat (k + (k - 1) / 3))), .val (.ref t)] [(.int (Int32.ofNat (k + (k - 1) / 3))), (.ref b1), (.long (Int64.ofNat n)), (.ref t)]))
  refine Gd.go (fun _ w_k => XS.bipush X118.here hx rfl (hb hby at_380) w_k) ?_
  show Gd _ _ _ _ (T118.setTop (mkF m 382 #[.val (.long xx), .second, .val (.int sh), .val (.long (Int64.ofNat n)), .second, .val (.ref b1), .val (.int (Int32.ofNat k)), .val (.int (Int32.ofNat (k + (k - 1) / 3))), .val (.ref t)] [(.int (13 : Int32)), (.int (Int32.ofNat (k + (k - 1) / 3))), (.ref b1), (.long (Int64.ofNat n)), (.ref t)]))
  obtain ⟨T119, X119, e119, st119⟩ := own_callSP X118 hx hZ (y := (⟨"com/example/yuletally/yuletally/engine/DigitsGroupedPinLaw", "at", "(Ljava/lang/String;J[JII)Z"⟩ : MethodName)) hown (hw _ (List.mem_of_getElem? (i := 182) rfl)) (hw _ (List.mem_of_getElem? (i := 183) rfl)) (hw _ (List.mem_of_getElem? (i := 22) rfl)) (hw _ (List.mem_of_getElem? (i := 184) rfl)) (by decide) (W := 0) (own_c27 l Z a0 hw cs fv gv d1 d2 G T101.heap n0 O1 n k hn hk (k + (k - 1) / 3) rfl b1 xF102 t W HT 13 (by decide)) rfl rfl e118 (by decide) (by decide) (g := (mkF m 382 #[.val (.long xx), .second, .val (.int sh), .val (.long (Int64.ofNat n)), .second, .val (.ref b1), .val (.int (Int32.ofNat k)), .val (.int (Int32.ofNat (k + (k - 1) / 3))), .val (.ref t)] [(.int (13 : Int32)), (.int (Int32.ofNat (k + (k - 1) / 3))), (.ref b1), (.long (Int64.ofNat n)), (.ref t)])) rfl (by rw [hml]; rfl) (argsL := [(.ref t), (.long (Int64.ofNat n)), (.ref b1), (.int (Int32.ofNat (k + (k - 1) / 3))), (.int (13 : Int32))]) (rest := []) (lenOf own_pd26 rfl) rfl (Nat.le_of_eq rfl) (hb hby at_382) rfl
  refine Gd.go (fun _ w_k => st119 _ w_k) ?_
  show Gd _ _ _ _ (T119.setTop (mkF m 385 #[.val (.long xx), .second, .val (.int sh), .val (.long (Int64.ofNat n)), .second, .val (.ref b1), .val (.int (Int32.ofNat k)), .val (.int (Int32.ofNat (k + (k - 1) / 3))), .val (.ref t)] [(.int (1 : Int32))]))
  refine Gd.go (fun _ w_k => XS.ifNo X119.here hx rfl (hb hby at_385) rfl ((if0 _ _).trans (feq (by decide)).1) w_k) ?_
  show Gd _ _ _ _ (T119.setTop (mkF m 388 #[.val (.long xx), .second, .val (.int sh), .val (.long (Int64.ofNat n)), .second, .val (.ref b1), .val (.int (Int32.ofNat k)), .val (.int (Int32.ofNat (k + (k - 1) / 3))), .val (.ref t)] []))
  refine Gd.go (fun _ w_k => XS.aload X119.here hx rfl (hb hby at_388) rfl rfl w_k) ?_
  show Gd _ _ _ _ (T119.setTop (mkF m 390 #[.val (.long xx), .second, .val (.int sh), .val (.long (Int64.ofNat n)), .second, .val (.ref b1), .val (.int (Int32.ofNat k)), .val (.int (Int32.ofNat (k + (k - 1) / 3))), .val (.ref t)] [(.ref t)]))
  refine Gd.go (fun _ w_k => XS.lloadN X119.here hx rfl (hb hby at_390) rfl w_k) ?_
  show Gd _ _ _ _ (T119.setTop (mkF m 391 #[.val (.long xx), .second, .val (.int sh), .val (.long (Int64.ofNat n)), .second, .val (.ref b1), .val (.int (Int32.ofNat k)), .val (.int (Int32.ofNat (k + (k - 1) / 3))), .val (.ref t)] [(.long (Int64.ofNat n)), (.ref t)]))
  refine Gd.go (fun _ w_k => XS.aload X119.here hx rfl (hb hby at_391) rfl rfl w_k) ?_
  show Gd _ _ _ _ (T119.setTop (mkF m 393 #[.val (.long xx), .second, .val (.int sh), .val (.long (Int64.ofNat n)), .second, .val (.ref b1), .val (.int (Int32.ofNat k)), .val (.int (Int32.ofNat (k + (k - 1) / 3))), .val (.ref t)] [(.ref b1), (.long (Int64.ofNat n)), (.ref t)]))
  refine Gd.go (fun _ w_k => XS.iload X119.here hx rfl (hb hby at_393) rfl w_k) ?_
  show Gd _ _ _ _ (T119.setTop (mkF m 395 #[.val (.long xx), .second, .val (.int sh), .val (.long (Int64.ofNat n)), .second, .val (.ref b1), .val (.int (Int32.ofNat k)), .val (.int (Int32.ofNat (k + (k - 1) / 3))), .val (.ref t)] [(.int (Int32.ofNat (k + (k - 1) / 3))), (.ref b1), (.long (Int64.ofNat n)), (.ref t)]))
  refine Gd.go (fun _ w_k => XS.bipush X119.here hx rfl (hb hby at_395) w_k) ?_
  show Gd _ _ _ _ (T119.setTop (mkF m 397 #[.val (.long xx), .second, .val (.int sh), .val (.long (Int64.ofNat n)), .second, .val (.ref b1), .val (.int (Int32.ofNat k)), .val (.int (Int32.ofNat (k + (k - 1) / 3))), .val (.ref t)] [(.int (14 : Int32)), (.int (Int32.ofNat (k + (k - 1) / 3))), (.ref b1), (.long (Int64.ofNat n)), (.ref t)]))
  obtain ⟨T120, X120, e120, st120⟩ := own_callSP X119 hx hZ (y := (⟨"com/example/yuletally/yuletally/engine/DigitsGroupedPinLaw", "at", "(Ljava/lang/String;J[JII)Z"⟩ : MethodName)) hown (hw _ (List.mem_of_getElem? (i := 182) rfl)) (hw _ (List.mem_of_getElem? (i := 183) rfl)) (hw _ (List.mem_of_getElem? (i := 22) rfl)) (hw _ (List.mem_of_getElem? (i := 184) rfl)) (by decide) (W := 0) (own_c27 l Z a0 hw cs fv gv d1 d2 G T101.heap n0 O1 n k hn hk (k + (k - 1) / 3) rfl b1 xF102 t W HT 14 (by decide)) rfl rfl e119 (by decide) (by decide) (g := (mkF m 397 #[.val (.long xx), .second, .val (.int sh), .val (.long (Int64.ofNat n)), .second, .val (.ref b1), .val (.int (Int32.ofNat k)), .val (.int (Int32.ofNat (k + (k - 1) / 3))), .val (.ref t)] [(.int (14 : Int32)), (.int (Int32.ofNat (k + (k - 1) / 3))), (.ref b1), (.long (Int64.ofNat n)), (.ref t)])) rfl (by rw [hml]; rfl) (argsL := [(.ref t), (.long (Int64.ofNat n)), (.ref b1), (.int (Int32.ofNat (k + (k - 1) / 3))), (.int (14 : Int32))]) (rest := []) (lenOf own_pd26 rfl) rfl (Nat.le_of_eq rfl) (hb hby at_397) rfl
  refine Gd.go (fun _ w_k => st120 _ w_k) ?_
  show Gd _ _ _ _ (T120.setTop (mkF m 400 #[.val (.long xx), .second, .val (.int sh), .val (.long (Int64.ofNat n)), .second, .val (.ref b1), .val (.int (Int32.ofNat k)), .val (.int (Int32.ofNat (k + (k - 1) / 3))), .val (.ref t)] [(.int (1 : Int32))]))
  refine Gd.go (fun _ w_k => XS.ifNo X120.here hx rfl (hb hby at_400) rfl ((if0 _ _).trans (feq (by decide)).1) w_k) ?_
  show Gd _ _ _ _ (T120.setTop (mkF m 403 #[.val (.long xx), .second, .val (.int sh), .val (.long (Int64.ofNat n)), .second, .val (.ref b1), .val (.int (Int32.ofNat k)), .val (.int (Int32.ofNat (k + (k - 1) / 3))), .val (.ref t)] []))
  refine Gd.go (fun _ w_k => XS.aload X120.here hx rfl (hb hby at_403) rfl rfl w_k) ?_
  show Gd _ _ _ _ (T120.setTop (mkF m 405 #[.val (.long xx), .second, .val (.int sh), .val (.long (Int64.ofNat n)), .second, .val (.ref b1), .val (.int (Int32.ofNat k)), .val (.int (Int32.ofNat (k + (k - 1) / 3))), .val (.ref t)] [(.ref t)]))
  refine Gd.go (fun _ w_k => XS.lloadN X120.here hx rfl (hb hby at_405) rfl w_k) ?_
  show Gd _ _ _ _ (T120.setTop (mkF m 406 #[.val (.long xx), .second, .val (.int sh), .val (.long (Int64.ofNat n)), .second, .val (.ref b1), .val (.int (Int32.ofNat k)), .val (.int (Int32.ofNat (k + (k - 1) / 3))), .val (.ref t)] [(.long (Int64.ofNat n)), (.ref t)]))
  refine Gd.go (fun _ w_k => XS.aload X120.here hx rfl (hb hby at_406) rfl rfl w_k) ?_
  show Gd _ _ _ _ (T120.setTop (mkF m 408 #[.val (.long xx), .second, .val (.int sh), .val (.long (Int64.ofNat n)), .second, .val (.ref b1), .val (.int (Int32.ofNat k)), .val (.int (Int32.ofNat (k + (k - 1) / 3))), .val (.ref t)] [(.ref b1), (.long (Int64.ofNat n)), (.ref t)]))
  refine Gd.go (fun _ w_k => XS.iload X120.here hx rfl (hb hby at_408) rfl w_k) ?_
  show Gd _ _ _ _ (T120.setTop (mkF m 410 #[.val (.long xx), .second, .val (.int sh), .val (.long (Int64.ofNat n)), .second, .val (.ref b1), .val (.int (Int32.ofNat k)), .val (.int (Int32.ofNat (k + (k - 1) / 3))), .val (.ref t)] [(.int (Int32.ofNat (k + (k - 1) / 3))), (.ref b1), (.long (Int64.ofNat n)), (.ref t)]))
  refine Gd.go (fun _ w_k => XS.bipush X120.here hx rfl (hb hby at_410) w_k) ?_
  show Gd _ _ _ _ (T120.setTop (mkF m 412 #[.val (.long xx), .second, .val (.int sh), .val (.long (Int64.ofNat n)), .second, .val (.ref b1), .val (.int (Int32.ofNat k)), .val (.int (Int32.ofNat (k + (k - 1) / 3))), .val (.ref t)] [(.int (15 : Int32)), (.int (Int32.ofNat (k + (k - 1) / 3))), (.ref b1), (.long (Int64.ofNat n)), (.ref t)]))
  obtain ⟨T121, X121, e121, st121⟩ := own_callSP X120 hx hZ (y := (⟨"com/example/yuletally/yuletally/engine/DigitsGroupedPinLaw", "at", "(Ljava/lang/String;J[JII)Z"⟩ : MethodName)) hown (hw _ (List.mem_of_getElem? (i := 182) rfl)) (hw _ (List.mem_of_getElem? (i := 183) rfl)) (hw _ (List.mem_of_getElem? (i := 22) rfl)) (hw _ (List.mem_of_getElem? (i := 184) rfl)) (by decide) (W := 0) (own_c27 l Z a0 hw cs fv gv d1 d2 G T101.heap n0 O1 n k hn hk (k + (k - 1) / 3) rfl b1 xF102 t W HT 15 (by decide)) rfl rfl e120 (by decide) (by decide) (g := (mkF m 412 #[.val (.long xx), .second, .val (.int sh), .val (.long (Int64.ofNat n)), .second, .val (.ref b1), .val (.int (Int32.ofNat k)), .val (.int (Int32.ofNat (k + (k - 1) / 3))), .val (.ref t)] [(.int (15 : Int32)), (.int (Int32.ofNat (k + (k - 1) / 3))), (.ref b1), (.long (Int64.ofNat n)), (.ref t)])) rfl (by rw [hml]; rfl) (argsL := [(.ref t), (.long (Int64.ofNat n)), (.ref b1), (.int (Int32.ofNat (k + (k - 1) / 3))), (.int (15 : Int32))]) (rest := []) (lenOf own_pd26 rfl) rfl (Nat.le_of_eq rfl) (hb hby at_412) rfl
  refine Gd.go (fun _ w_k => st121 _ w_k) ?_
  show Gd _ _ _ _ (T121.setTop (mkF m 415 #[.val (.long xx), .second, .val (.int sh), .val (.long (Int64.ofNat n)), .second, .val (.ref b1), .val (.int (Int32.ofNat k)), .val (.int (Int32.ofNat (k + (k - 1) / 3))), .val (.ref t)] [(.int (1 : Int32))]))
  refine Gd.go (fun _ w_k => XS.ifNo X121.here hx rfl (hb hby at_415) rfl ((if0 _ _).trans (feq (by decide)).1) w_k) ?_
  show Gd _ _ _ _ (T121.setTop (mkF m 418 #[.val (.long xx), .second, .val (.int sh), .val (.long (Int64.ofNat n)), .second, .val (.ref b1), .val (.int (Int32.ofNat k)), .val (.int (Int32.ofNat (k + (k - 1) / 3))), .val (.ref t)] []))
  refine Gd.go (fun _ w_k => XS.aload X121.here hx rfl (hb hby at_418) rfl rfl w_k) ?_
  show Gd _ _ _ _ (T121.setTop (mkF m 420 #[.val (.long xx), .second, .val (.int sh), .val (.long (Int64.ofNat n)), .second, .val (.ref b1), .val (.int (Int32.ofNat k)), .val (.int (Int32.ofNat (k + (k - 1) / 3))), .val (.ref t)] [(.ref t)]))
  refine Gd.go (fun _ w_k => XS.lloadN X121.here hx rfl (hb hby at_420) rfl w_k) ?_
  show Gd _ _ _ _ (T121.setTop (mkF m 421 #[.val (.long xx), .second, .val (.int sh), .val (.long (Int64.ofNat n)), .second, .val (.ref b1), .val (.int (Int32.ofNat k)), .val (.int (Int32.ofNat (k + (k - 1) / 3))), .val (.ref t)] [(.long (Int64.ofNat n)), (.ref t)]))
  refine Gd.go (fun _ w_k => XS.aload X121.here hx rfl (hb hby at_421) rfl rfl w_k) ?_
  show Gd _ _ _ _ (T121.setTop (mkF m 423 #[.val (.long xx), .second, .val (.int sh), .val (.long (Int64.ofNat n)), .second, .val (.ref b1), .val (.int (Int32.ofNat k)), .val (.int (Int32.ofNat (k + (k - 1) / 3))), .val (.ref t)] [(.ref b1), (.long (Int64.ofNat n)), (.ref t)]))
  refine Gd.go (fun _ w_k => XS.iload X121.here hx rfl (hb hby at_423) rfl w_k) ?_
  show Gd _ _ _ _ (T121.setTop (mkF m 425 #[.val (.long xx), .second, .val (.int sh), .val (.long (Int64.ofNat n)), .second, .val (.ref b1), .val (.int (Int32.ofNat k)), .val (.int (Int32.ofNat (k + (k - 1) / 3))), .val (.ref t)] [(.int (Int32.ofNat (k + (k - 1) / 3))), (.ref b1), (.long (Int64.ofNat n)), (.ref t)]))
  refine Gd.go (fun _ w_k => XS.bipush X121.here hx rfl (hb hby at_425) w_k) ?_
  show Gd _ _ _ _ (T121.setTop (mkF m 427 #[.val (.long xx), .second, .val (.int sh), .val (.long (Int64.ofNat n)), .second, .val (.ref b1), .val (.int (Int32.ofNat k)), .val (.int (Int32.ofNat (k + (k - 1) / 3))), .val (.ref t)] [(.int (16 : Int32)), (.int (Int32.ofNat (k + (k - 1) / 3))), (.ref b1), (.long (Int64.ofNat n)), (.ref t)]))
  obtain ⟨T122, X122, e122, st122⟩ := own_callSP X121 hx hZ (y := (⟨"com/example/yuletally/yuletally/engine/DigitsGroupedPinLaw", "at", "(Ljava/lang/String;J[JII)Z"⟩ : MethodName)) hown (hw _ (List.mem_of_getElem? (i := 182) rfl)) (hw _ (List.mem_of_getElem? (i := 183) rfl)) (hw _ (List.mem_of_getElem? (i := 22) rfl)) (hw _ (List.mem_of_getElem? (i := 184) rfl)) (by decide) (W := 0) (own_c27 l Z a0 hw cs fv gv d1 d2 G T101.heap n0 O1 n k hn hk (k + (k - 1) / 3) rfl b1 xF102 t W HT 16 (by decide)) rfl rfl e121 (by decide) (by decide) (g := (mkF m 427 #[.val (.long xx), .second, .val (.int sh), .val (.long (Int64.ofNat n)), .second, .val (.ref b1), .val (.int (Int32.ofNat k)), .val (.int (Int32.ofNat (k + (k - 1) / 3))), .val (.ref t)] [(.int (16 : Int32)), (.int (Int32.ofNat (k + (k - 1) / 3))), (.ref b1), (.long (Int64.ofNat n)), (.ref t)])) rfl (by rw [hml]; rfl) (argsL := [(.ref t), (.long (Int64.ofNat n)), (.ref b1), (.int (Int32.ofNat (k + (k - 1) / 3))), (.int (16 : Int32))]) (rest := []) (lenOf own_pd26 rfl) rfl (Nat.le_of_eq rfl) (hb hby at_427) rfl
  refine Gd.go (fun _ w_k => st122 _ w_k) ?_
  show Gd _ _ _ _ (T122.setTop (mkF m 430 #[.val (.long xx), .second, .val (.int sh), .val (.long (Int64.ofNat n)), .second, .val (.ref b1), .val (.int (Int32.ofNat k)), .val (.int (Int32.ofNat (k + (k - 1) / 3))), .val (.ref t)] [(.int (1 : Int32))]))
  refine Gd.go (fun _ w_k => XS.ifNo X122.here hx rfl (hb hby at_430) rfl ((if0 _ _).trans (feq (by decide)).1) w_k) ?_
  show Gd _ _ _ _ (T122.setTop (mkF m 433 #[.val (.long xx), .second, .val (.int sh), .val (.long (Int64.ofNat n)), .second, .val (.ref b1), .val (.int (Int32.ofNat k)), .val (.int (Int32.ofNat (k + (k - 1) / 3))), .val (.ref t)] []))
  refine Gd.go (fun _ w_k => XS.aload X122.here hx rfl (hb hby at_433) rfl rfl w_k) ?_
  show Gd _ _ _ _ (T122.setTop (mkF m 435 #[.val (.long xx), .second, .val (.int sh), .val (.long (Int64.ofNat n)), .second, .val (.ref b1), .val (.int (Int32.ofNat k)), .val (.int (Int32.ofNat (k + (k - 1) / 3))), .val (.ref t)] [(.ref t)]))
  refine Gd.go (fun _ w_k => XS.lloadN X122.here hx rfl (hb hby at_435) rfl w_k) ?_
  show Gd _ _ _ _ (T122.setTop (mkF m 436 #[.val (.long xx), .second, .val (.int sh), .val (.long (Int64.ofNat n)), .second, .val (.ref b1), .val (.int (Int32.ofNat k)), .val (.int (Int32.ofNat (k + (k - 1) / 3))), .val (.ref t)] [(.long (Int64.ofNat n)), (.ref t)]))
  refine Gd.go (fun _ w_k => XS.aload X122.here hx rfl (hb hby at_436) rfl rfl w_k) ?_
  show Gd _ _ _ _ (T122.setTop (mkF m 438 #[.val (.long xx), .second, .val (.int sh), .val (.long (Int64.ofNat n)), .second, .val (.ref b1), .val (.int (Int32.ofNat k)), .val (.int (Int32.ofNat (k + (k - 1) / 3))), .val (.ref t)] [(.ref b1), (.long (Int64.ofNat n)), (.ref t)]))
  refine Gd.go (fun _ w_k => XS.iload X122.here hx rfl (hb hby at_438) rfl w_k) ?_
  show Gd _ _ _ _ (T122.setTop (mkF m 440 #[.val (.long xx), .second, .val (.int sh), .val (.long (Int64.ofNat n)), .second, .val (.ref b1), .val (.int (Int32.ofNat k)), .val (.int (Int32.ofNat (k + (k - 1) / 3))), .val (.ref t)] [(.int (Int32.ofNat (k + (k - 1) / 3))), (.ref b1), (.long (Int64.ofNat n)), (.ref t)]))
  refine Gd.go (fun _ w_k => XS.bipush X122.here hx rfl (hb hby at_440) w_k) ?_
  show Gd _ _ _ _ (T122.setTop (mkF m 442 #[.val (.long xx), .second, .val (.int sh), .val (.long (Int64.ofNat n)), .second, .val (.ref b1), .val (.int (Int32.ofNat k)), .val (.int (Int32.ofNat (k + (k - 1) / 3))), .val (.ref t)] [(.int (17 : Int32)), (.int (Int32.ofNat (k + (k - 1) / 3))), (.ref b1), (.long (Int64.ofNat n)), (.ref t)]))
  obtain ⟨T123, X123, e123, st123⟩ := own_callSP X122 hx hZ (y := (⟨"com/example/yuletally/yuletally/engine/DigitsGroupedPinLaw", "at", "(Ljava/lang/String;J[JII)Z"⟩ : MethodName)) hown (hw _ (List.mem_of_getElem? (i := 182) rfl)) (hw _ (List.mem_of_getElem? (i := 183) rfl)) (hw _ (List.mem_of_getElem? (i := 22) rfl)) (hw _ (List.mem_of_getElem? (i := 184) rfl)) (by decide) (W := 0) (own_c27 l Z a0 hw cs fv gv d1 d2 G T101.heap n0 O1 n k hn hk (k + (k - 1) / 3) rfl b1 xF102 t W HT 17 (by decide)) rfl rfl e122 (by decide) (by decide) (g := (mkF m 442 #[.val (.long xx), .second, .val (.int sh), .val (.long (Int64.ofNat n)), .second, .val (.ref b1), .val (.int (Int32.ofNat k)), .val (.int (Int32.ofNat (k + (k - 1) / 3))), .val (.ref t)] [(.int (17 : Int32)), (.int (Int32.ofNat (k + (k - 1) / 3))), (.ref b1), (.long (Int64.ofNat n)), (.ref t)])) rfl (by rw [hml]; rfl) (argsL := [(.ref t), (.long (Int64.ofNat n)), (.ref b1), (.int (Int32.ofNat (k + (k - 1) / 3))), (.int (17 : Int32))]) (rest := []) (lenOf own_pd26 rfl) rfl (Nat.le_of_eq rfl) (hb hby at_442) rfl
  refine Gd.go (fun _ w_k => st123 _ w_k) ?_
  show Gd _ _ _ _ (T123.setTop (mkF m 445 #[.val (.long xx), .second, .val (.int sh), .val (.long (Int64.ofNat n)), .second, .val (.ref b1), .val (.int (Int32.ofNat k)), .val (.int (Int32.ofNat (k + (k - 1) / 3))), .val (.ref t)] [(.int (1 : Int32))]))
  refine Gd.go (fun _ w_k => XS.ifNo X123.here hx rfl (hb hby at_445) rfl ((if0 _ _).trans (feq (by decide)).1) w_k) ?_
  show Gd _ _ _ _ (T123.setTop (mkF m 448 #[.val (.long xx), .second, .val (.int sh), .val (.long (Int64.ofNat n)), .second, .val (.ref b1), .val (.int (Int32.ofNat k)), .val (.int (Int32.ofNat (k + (k - 1) / 3))), .val (.ref t)] []))
  refine Gd.go (fun _ w_k => XS.aload X123.here hx rfl (hb hby at_448) rfl rfl w_k) ?_
  show Gd _ _ _ _ (T123.setTop (mkF m 450 #[.val (.long xx), .second, .val (.int sh), .val (.long (Int64.ofNat n)), .second, .val (.ref b1), .val (.int (Int32.ofNat k)), .val (.int (Int32.ofNat (k + (k - 1) / 3))), .val (.ref t)] [(.ref t)]))
  refine Gd.go (fun _ w_k => XS.lloadN X123.here hx rfl (hb hby at_450) rfl w_k) ?_
  show Gd _ _ _ _ (T123.setTop (mkF m 451 #[.val (.long xx), .second, .val (.int sh), .val (.long (Int64.ofNat n)), .second, .val (.ref b1), .val (.int (Int32.ofNat k)), .val (.int (Int32.ofNat (k + (k - 1) / 3))), .val (.ref t)] [(.long (Int64.ofNat n)), (.ref t)]))
  refine Gd.go (fun _ w_k => XS.aload X123.here hx rfl (hb hby at_451) rfl rfl w_k) ?_
  show Gd _ _ _ _ (T123.setTop (mkF m 453 #[.val (.long xx), .second, .val (.int sh), .val (.long (Int64.ofNat n)), .second, .val (.ref b1), .val (.int (Int32.ofNat k)), .val (.int (Int32.ofNat (k + (k - 1) / 3))), .val (.ref t)] [(.ref b1), (.long (Int64.ofNat n)), (.ref t)]))
  refine Gd.go (fun _ w_k => XS.iload X123.here hx rfl (hb hby at_453) rfl w_k) ?_
  show Gd _ _ _ _ (T123.setTop (mkF m 455 #[.val (.long xx), .second, .val (.int sh), .val (.long (Int64.ofNat n)), .second, .val (.ref b1), .val (.int (Int32.ofNat k)), .val (.int (Int32.ofNat (k + (k - 1) / 3))), .val (.ref t)] [(.int (Int32.ofNat (k + (k - 1) / 3))), (.ref b1), (.long (Int64.ofNat n)), (.ref t)]))
  refine Gd.go (fun _ w_k => XS.bipush X123.here hx rfl (hb hby at_455) w_k) ?_
  show Gd _ _ _ _ (T123.setTop (mkF m 457 #[.val (.long xx), .second, .val (.int sh), .val (.long (Int64.ofNat n)), .second, .val (.ref b1), .val (.int (Int32.ofNat k)), .val (.int (Int32.ofNat (k + (k - 1) / 3))), .val (.ref t)] [(.int (18 : Int32)), (.int (Int32.ofNat (k + (k - 1) / 3))), (.ref b1), (.long (Int64.ofNat n)), (.ref t)]))
  obtain ⟨T124, X124, e124, st124⟩ := own_callSP X123 hx hZ (y := (⟨"com/example/yuletally/yuletally/engine/DigitsGroupedPinLaw", "at", "(Ljava/lang/String;J[JII)Z"⟩ : MethodName)) hown (hw _ (List.mem_of_getElem? (i := 182) rfl)) (hw _ (List.mem_of_getElem? (i := 183) rfl)) (hw _ (List.mem_of_getElem? (i := 22) rfl)) (hw _ (List.mem_of_getElem? (i := 184) rfl)) (by decide) (W := 0) (own_c27 l Z a0 hw cs fv gv d1 d2 G T101.heap n0 O1 n k hn hk (k + (k - 1) / 3) rfl b1 xF102 t W HT 18 (by decide)) rfl rfl e123 (by decide) (by decide) (g := (mkF m 457 #[.val (.long xx), .second, .val (.int sh), .val (.long (Int64.ofNat n)), .second, .val (.ref b1), .val (.int (Int32.ofNat k)), .val (.int (Int32.ofNat (k + (k - 1) / 3))), .val (.ref t)] [(.int (18 : Int32)), (.int (Int32.ofNat (k + (k - 1) / 3))), (.ref b1), (.long (Int64.ofNat n)), (.ref t)])) rfl (by rw [hml]; rfl) (argsL := [(.ref t), (.long (Int64.ofNat n)), (.ref b1), (.int (Int32.ofNat (k + (k - 1) / 3))), (.int (18 : Int32))]) (rest := []) (lenOf own_pd26 rfl) rfl (Nat.le_of_eq rfl) (hb hby at_457) rfl
  refine Gd.go (fun _ w_k => st124 _ w_k) ?_
  show Gd _ _ _ _ (T124.setTop (mkF m 460 #[.val (.long xx), .second, .val (.int sh), .val (.long (Int64.ofNat n)), .second, .val (.ref b1), .val (.int (Int32.ofNat k)), .val (.int (Int32.ofNat (k + (k - 1) / 3))), .val (.ref t)] [(.int (1 : Int32))]))
  refine Gd.go (fun _ w_k => XS.ifNo X124.here hx rfl (hb hby at_460) rfl ((if0 _ _).trans (feq (by decide)).1) w_k) ?_
  show Gd _ _ _ _ (T124.setTop (mkF m 463 #[.val (.long xx), .second, .val (.int sh), .val (.long (Int64.ofNat n)), .second, .val (.ref b1), .val (.int (Int32.ofNat k)), .val (.int (Int32.ofNat (k + (k - 1) / 3))), .val (.ref t)] []))
  refine Gd.go (fun _ w_k => XS.aload X124.here hx rfl (hb hby at_463) rfl rfl w_k) ?_
  show Gd _ _ _ _ (T124.setTop (mkF m 465 #[.val (.long xx), .second, .val (.int sh), .val (.long (Int64.ofNat n)), .second, .val (.ref b1), .val (.int (Int32.ofNat k)), .val (.int (Int32.ofNat (k + (k - 1) / 3))), .val (.ref t)] [(.ref t)]))
  refine Gd.go (fun _ w_k => XS.lloadN X124.here hx rfl (hb hby at_465) rfl w_k) ?_
  show Gd _ _ _ _ (T124.setTop (mkF m 466 #[.val (.long xx), .second, .val (.int sh), .val (.long (Int64.ofNat n)), .second, .val (.ref b1), .val (.int (Int32.ofNat k)), .val (.int (Int32.ofNat (k + (k - 1) / 3))), .val (.ref t)] [(.long (Int64.ofNat n)), (.ref t)]))
  refine Gd.go (fun _ w_k => XS.aload X124.here hx rfl (hb hby at_466) rfl rfl w_k) ?_
  show Gd _ _ _ _ (T124.setTop (mkF m 468 #[.val (.long xx), .second, .val (.int sh), .val (.long (Int64.ofNat n)), .second, .val (.ref b1), .val (.int (Int32.ofNat k)), .val (.int (Int32.ofNat (k + (k - 1) / 3))), .val (.ref t)] [(.ref b1), (.long (Int64.ofNat n)), (.ref t)]))
  refine Gd.go (fun _ w_k => XS.iload X124.here hx rfl (hb hby at_468) rfl w_k) ?_
  show Gd _ _ _ _ (T124.setTop (mkF m 470 #[.val (.long xx), .second, .val (.int sh), .val (.long (Int64.ofNat n)), .second, .val (.ref b1), .val (.int (Int32.ofNat k)), .val (.int (Int32.ofNat (k + (k - 1) / 3))), .val (.ref t)] [(.int (Int32.ofNat (k + (k - 1) / 3))), (.ref b1), (.long (Int64.ofNat n)), (.ref t)]))
  refine Gd.go (fun _ w_k => XS.bipush X124.here hx rfl (hb hby at_470) w_k) ?_
  show Gd _ _ _ _ (T124.setTop (mkF m 472 #[.val (.long xx), .second, .val (.int sh), .val (.long (Int64.ofNat n)), .second, .val (.ref b1), .val (.int (Int32.ofNat k)), .val (.int (Int32.ofNat (k + (k - 1) / 3))), .val (.ref t)] [(.int (19 : Int32)), (.int (Int32.ofNat (k + (k - 1) / 3))), (.ref b1), (.long (Int64.ofNat n)), (.ref t)]))
  obtain ⟨T125, X125, e125, st125⟩ := own_callSP X124 hx hZ (y := (⟨"com/example/yuletally/yuletally/engine/DigitsGroupedPinLaw", "at", "(Ljava/lang/String;J[JII)Z"⟩ : MethodName)) hown (hw _ (List.mem_of_getElem? (i := 182) rfl)) (hw _ (List.mem_of_getElem? (i := 183) rfl)) (hw _ (List.mem_of_getElem? (i := 22) rfl)) (hw _ (List.mem_of_getElem? (i := 184) rfl)) (by decide) (W := 0) (own_c27 l Z a0 hw cs fv gv d1 d2 G T101.heap n0 O1 n k hn hk (k + (k - 1) / 3) rfl b1 xF102 t W HT 19 (by decide)) rfl rfl e124 (by decide) (by decide) (g := (mkF m 472 #[.val (.long xx), .second, .val (.int sh), .val (.long (Int64.ofNat n)), .second, .val (.ref b1), .val (.int (Int32.ofNat k)), .val (.int (Int32.ofNat (k + (k - 1) / 3))), .val (.ref t)] [(.int (19 : Int32)), (.int (Int32.ofNat (k + (k - 1) / 3))), (.ref b1), (.long (Int64.ofNat n)), (.ref t)])) rfl (by rw [hml]; rfl) (argsL := [(.ref t), (.long (Int64.ofNat n)), (.ref b1), (.int (Int32.ofNat (k + (k - 1) / 3))), (.int (19 : Int32))]) (rest := []) (lenOf own_pd26 rfl) rfl (Nat.le_of_eq rfl) (hb hby at_472) rfl
  refine Gd.go (fun _ w_k => st125 _ w_k) ?_
  show Gd _ _ _ _ (T125.setTop (mkF m 475 #[.val (.long xx), .second, .val (.int sh), .val (.long (Int64.ofNat n)), .second, .val (.ref b1), .val (.int (Int32.ofNat k)), .val (.int (Int32.ofNat (k + (k - 1) / 3))), .val (.ref t)] [(.int (1 : Int32))]))
  refine Gd.go (fun _ w_k => XS.ifNo X125.here hx rfl (hb hby at_475) rfl ((if0 _ _).trans (feq (by decide)).1) w_k) ?_
  show Gd _ _ _ _ (T125.setTop (mkF m 478 #[.val (.long xx), .second, .val (.int sh), .val (.long (Int64.ofNat n)), .second, .val (.ref b1), .val (.int (Int32.ofNat k)), .val (.int (Int32.ofNat (k + (k - 1) / 3))), .val (.ref t)] []))
  refine Gd.go (fun _ w_k => XS.aload X125.here hx rfl (hb hby at_478) rfl rfl w_k) ?_
  show Gd _ _ _ _ (T125.setTop (mkF m 480 #[.val (.long xx), .second, .val (.int sh), .val (.long (Int64.ofNat n)), .second, .val (.ref b1), .val (.int (Int32.ofNat k)), .val (.int (Int32.ofNat (k + (k - 1) / 3))), .val (.ref t)] [(.ref t)]))
  refine Gd.go (fun _ w_k => XS.lloadN X125.here hx rfl (hb hby at_480) rfl w_k) ?_
  show Gd _ _ _ _ (T125.setTop (mkF m 481 #[.val (.long xx), .second, .val (.int sh), .val (.long (Int64.ofNat n)), .second, .val (.ref b1), .val (.int (Int32.ofNat k)), .val (.int (Int32.ofNat (k + (k - 1) / 3))), .val (.ref t)] [(.long (Int64.ofNat n)), (.ref t)]))
  refine Gd.go (fun _ w_k => XS.aload X125.here hx rfl (hb hby at_481) rfl rfl w_k) ?_
  show Gd _ _ _ _ (T125.setTop (mkF m 483 #[.val (.long xx), .second, .val (.int sh), .val (.long (Int64.ofNat n)), .second, .val (.ref b1), .val (.int (Int32.ofNat k)), .val (.int (Int32.ofNat (k + (k - 1) / 3))), .val (.ref t)] [(.ref b1), (.long (Int64.ofNat n)), (.ref t)]))
  refine Gd.go (fun _ w_k => XS.iload X125.here hx rfl (hb hby at_483) rfl w_k) ?_
  show Gd _ _ _ _ (T125.setTop (mkF m 485 #[.val (.long xx), .second, .val (.int sh), .val (.long (Int64.ofNat n)), .second, .val (.ref b1), .val (.int (Int32.ofNat k)), .val (.int (Int32.ofNat (k + (k - 1) / 3))), .val (.ref t)] [(.int (Int32.ofNat (k + (k - 1) / 3))), (.ref b1), (.long (Int64.ofNat n)), (.ref t)]))
  refine Gd.go (fun _ w_k => XS.bipush X125.here hx rfl (hb hby at_485) w_k) ?_
  show Gd _ _ _ _ (T125.setTop (mkF m 487 #[.val (.long xx), .second, .val (.int sh), .val (.long (Int64.ofNat n)), .second, .val (.ref b1), .val (.int (Int32.ofNat k)), .val (.int (Int32.ofNat (k + (k - 1) / 3))), .val (.ref t)] [(.int (20 : Int32)), (.int (Int32.ofNat (k + (k - 1) / 3))), (.ref b1), (.long (Int64.ofNat n)), (.ref t)]))
  obtain ⟨T126, X126, e126, st126⟩ := own_callSP X125 hx hZ (y := (⟨"com/example/yuletally/yuletally/engine/DigitsGroupedPinLaw", "at", "(Ljava/lang/String;J[JII)Z"⟩ : MethodName)) hown (hw _ (List.mem_of_getElem? (i := 182) rfl)) (hw _ (List.mem_of_getElem? (i := 183) rfl)) (hw _ (List.mem_of_getElem? (i := 22) rfl)) (hw _ (List.mem_of_getElem? (i := 184) rfl)) (by decide) (W := 0) (own_c27 l Z a0 hw cs fv gv d1 d2 G T101.heap n0 O1 n k hn hk (k + (k - 1) / 3) rfl b1 xF102 t W HT 20 (by decide)) rfl rfl e125 (by decide) (by decide) (g := (mkF m 487 #[.val (.long xx), .second, .val (.int sh), .val (.long (Int64.ofNat n)), .second, .val (.ref b1), .val (.int (Int32.ofNat k)), .val (.int (Int32.ofNat (k + (k - 1) / 3))), .val (.ref t)] [(.int (20 : Int32)), (.int (Int32.ofNat (k + (k - 1) / 3))), (.ref b1), (.long (Int64.ofNat n)), (.ref t)])) rfl (by rw [hml]; rfl) (argsL := [(.ref t), (.long (Int64.ofNat n)), (.ref b1), (.int (Int32.ofNat (k + (k - 1) / 3))), (.int (20 : Int32))]) (rest := []) (lenOf own_pd26 rfl) rfl (Nat.le_of_eq rfl) (hb hby at_487) rfl
  refine Gd.go (fun _ w_k => st126 _ w_k) ?_
  show Gd _ _ _ _ (T126.setTop (mkF m 490 #[.val (.long xx), .second, .val (.int sh), .val (.long (Int64.ofNat n)), .second, .val (.ref b1), .val (.int (Int32.ofNat k)), .val (.int (Int32.ofNat (k + (k - 1) / 3))), .val (.ref t)] [(.int (1 : Int32))]))
  refine Gd.go (fun _ w_k => XS.ifNo X126.here hx rfl (hb hby at_490) rfl ((if0 _ _).trans (feq (by decide)).1) w_k) ?_
  show Gd _ _ _ _ (T126.setTop (mkF m 493 #[.val (.long xx), .second, .val (.int sh), .val (.long (Int64.ofNat n)), .second, .val (.ref b1), .val (.int (Int32.ofNat k)), .val (.int (Int32.ofNat (k + (k - 1) / 3))), .val (.ref t)] []))
  refine Gd.go (fun _ w_k => XS.aload X126.here hx rfl (hb hby at_493) rfl rfl w_k) ?_
  show Gd _ _ _ _ (T126.setTop (mkF m 495 #[.val (.long xx), .second, .val (.int sh), .val (.long (Int64.ofNat n)), .second, .val (.ref b1), .val (.int (Int32.ofNat k)), .val (.int (Int32.ofNat (k + (k - 1) / 3))), .val (.ref t)] [(.ref t)]))
  refine Gd.go (fun _ w_k => XS.lloadN X126.here hx rfl (hb hby at_495) rfl w_k) ?_
  show Gd _ _ _ _ (T126.setTop (mkF m 496 #[.val (.long xx), .second, .val (.int sh), .val (.long (Int64.ofNat n)), .second, .val (.ref b1), .val (.int (Int32.ofNat k)), .val (.int (Int32.ofNat (k + (k - 1) / 3))), .val (.ref t)] [(.long (Int64.ofNat n)), (.ref t)]))
  refine Gd.go (fun _ w_k => XS.aload X126.here hx rfl (hb hby at_496) rfl rfl w_k) ?_
  show Gd _ _ _ _ (T126.setTop (mkF m 498 #[.val (.long xx), .second, .val (.int sh), .val (.long (Int64.ofNat n)), .second, .val (.ref b1), .val (.int (Int32.ofNat k)), .val (.int (Int32.ofNat (k + (k - 1) / 3))), .val (.ref t)] [(.ref b1), (.long (Int64.ofNat n)), (.ref t)]))
  refine Gd.go (fun _ w_k => XS.iload X126.here hx rfl (hb hby at_498) rfl w_k) ?_
  show Gd _ _ _ _ (T126.setTop (mkF m 500 #[.val (.long xx), .second, .val (.int sh), .val (.long (Int64.ofNat n)), .second, .val (.ref b1), .val (.int (Int32.ofNat k)), .val (.int (Int32.ofNat (k + (k - 1) / 3))), .val (.ref t)] [(.int (Int32.ofNat (k + (k - 1) / 3))), (.ref b1), (.long (Int64.ofNat n)), (.ref t)]))
  refine Gd.go (fun _ w_k => XS.bipush X126.here hx rfl (hb hby at_500) w_k) ?_
  show Gd _ _ _ _ (T126.setTop (mkF m 502 #[.val (.long xx), .second, .val (.int sh), .val (.long (Int64.ofNat n)), .second, .val (.ref b1), .val (.int (Int32.ofNat k)), .val (.int (Int32.ofNat (k + (k - 1) / 3))), .val (.ref t)] [(.int (21 : Int32)), (.int (Int32.ofNat (k + (k - 1) / 3))), (.ref b1), (.long (Int64.ofNat n)), (.ref t)]))
  obtain ⟨T127, X127, e127, st127⟩ := own_callSP X126 hx hZ (y := (⟨"com/example/yuletally/yuletally/engine/DigitsGroupedPinLaw", "at", "(Ljava/lang/String;J[JII)Z"⟩ : MethodName)) hown (hw _ (List.mem_of_getElem? (i := 182) rfl)) (hw _ (List.mem_of_getElem? (i := 183) rfl)) (hw _ (List.mem_of_getElem? (i := 22) rfl)) (hw _ (List.mem_of_getElem? (i := 184) rfl)) (by decide) (W := 0) (own_c27 l Z a0 hw cs fv gv d1 d2 G T101.heap n0 O1 n k hn hk (k + (k - 1) / 3) rfl b1 xF102 t W HT 21 (by decide)) rfl rfl e126 (by decide) (by decide) (g := (mkF m 502 #[.val (.long xx), .second, .val (.int sh), .val (.long (Int64.ofNat n)), .second, .val (.ref b1), .val (.int (Int32.ofNat k)), .val (.int (Int32.ofNat (k + (k - 1) / 3))), .val (.ref t)] [(.int (21 : Int32)), (.int (Int32.ofNat (k + (k - 1) / 3))), (.ref b1), (.long (Int64.ofNat n)), (.ref t)])) rfl (by rw [hml]; rfl) (argsL := [(.ref t), (.long (Int64.ofNat n)), (.ref b1), (.int (Int32.ofNat (k + (k - 1) / 3))), (.int (21 : Int32))]) (rest := []) (lenOf own_pd26 rfl) rfl (Nat.le_of_eq rfl) (hb hby at_502) rfl
  refine Gd.go (fun _ w_k => st127 _ w_k) ?_
  show Gd _ _ _ _ (T127.setTop (mkF m 505 #[.val (.long xx), .second, .val (.int sh), .val (.long (Int64.ofNat n)), .second, .val (.ref b1), .val (.int (Int32.ofNat k)), .val (.int (Int32.ofNat (k + (k - 1) / 3))), .val (.ref t)] [(.int (1 : Int32))]))
  refine Gd.go (fun _ w_k => XS.ifNo X127.here hx rfl (hb hby at_505) rfl ((if0 _ _).trans (feq (by decide)).1) w_k) ?_
  show Gd _ _ _ _ (T127.setTop (mkF m 508 #[.val (.long xx), .second, .val (.int sh), .val (.long (Int64.ofNat n)), .second, .val (.ref b1), .val (.int (Int32.ofNat k)), .val (.int (Int32.ofNat (k + (k - 1) / 3))), .val (.ref t)] []))
  refine Gd.go (fun _ w_k => XS.aload X127.here hx rfl (hb hby at_508) rfl rfl w_k) ?_
  show Gd _ _ _ _ (T127.setTop (mkF m 510 #[.val (.long xx), .second, .val (.int sh), .val (.long (Int64.ofNat n)), .second, .val (.ref b1), .val (.int (Int32.ofNat k)), .val (.int (Int32.ofNat (k + (k - 1) / 3))), .val (.ref t)] [(.ref t)]))
  refine Gd.go (fun _ w_k => XS.lloadN X127.here hx rfl (hb hby at_510) rfl w_k) ?_
  show Gd _ _ _ _ (T127.setTop (mkF m 511 #[.val (.long xx), .second, .val (.int sh), .val (.long (Int64.ofNat n)), .second, .val (.ref b1), .val (.int (Int32.ofNat k)), .val (.int (Int32.ofNat (k + (k - 1) / 3))), .val (.ref t)] [(.long (Int64.ofNat n)), (.ref t)]))
  refine Gd.go (fun _ w_k => XS.aload X127.here hx rfl (hb hby at_511) rfl rfl w_k) ?_
  show Gd _ _ _ _ (T127.setTop (mkF m 513 #[.val (.long xx), .second, .val (.int sh), .val (.long (Int64.ofNat n)), .second, .val (.ref b1), .val (.int (Int32.ofNat k)), .val (.int (Int32.ofNat (k + (k - 1) / 3))), .val (.ref t)] [(.ref b1), (.long (Int64.ofNat n)), (.ref t)]))
  refine Gd.go (fun _ w_k => XS.iload X127.here hx rfl (hb hby at_513) rfl w_k) ?_
  show Gd _ _ _ _ (T127.setTop (mkF m 515 #[.val (.long xx), .second, .val (.int sh), .val (.long (Int64.ofNat n)), .second, .val (.ref b1), .val (.int (Int32.ofNat k)), .val (.int (Int32.ofNat (k + (k - 1) / 3))), .val (.ref t)] [(.int (Int32.ofNat (k + (k - 1) / 3))), (.ref b1), (.long (Int64.ofNat n)), (.ref t)]))
  refine Gd.go (fun _ w_k => XS.bipush X127.here hx rfl (hb hby at_515) w_k) ?_
  show Gd _ _ _ _ (T127.setTop (mkF m 517 #[.val (.long xx), .second, .val (.int sh), .val (.long (Int64.ofNat n)), .second, .val (.ref b1), .val (.int (Int32.ofNat k)), .val (.int (Int32.ofNat (k + (k - 1) / 3))), .val (.ref t)] [(.int (22 : Int32)), (.int (Int32.ofNat (k + (k - 1) / 3))), (.ref b1), (.long (Int64.ofNat n)), (.ref t)]))
  obtain ⟨T128, X128, e128, st128⟩ := own_callSP X127 hx hZ (y := (⟨"com/example/yuletally/yuletally/engine/DigitsGroupedPinLaw", "at", "(Ljava/lang/String;J[JII)Z"⟩ : MethodName)) hown (hw _ (List.mem_of_getElem? (i := 182) rfl)) (hw _ (List.mem_of_getElem? (i := 183) rfl)) (hw _ (List.mem_of_getElem? (i := 22) rfl)) (hw _ (List.mem_of_getElem? (i := 184) rfl)) (by decide) (W := 0) (own_c27 l Z a0 hw cs fv gv d1 d2 G T101.heap n0 O1 n k hn hk (k + (k - 1) / 3) rfl b1 xF102 t W HT 22 (by decide)) rfl rfl e127 (by decide) (by decide) (g := (mkF m 517 #[.val (.long xx), .second, .val (.int sh), .val (.long (Int64.ofNat n)), .second, .val (.ref b1), .val (.int (Int32.ofNat k)), .val (.int (Int32.ofNat (k + (k - 1) / 3))), .val (.ref t)] [(.int (22 : Int32)), (.int (Int32.ofNat (k + (k - 1) / 3))), (.ref b1), (.long (Int64.ofNat n)), (.ref t)])) rfl (by rw [hml]; rfl) (argsL := [(.ref t), (.long (Int64.ofNat n)), (.ref b1), (.int (Int32.ofNat (k + (k - 1) / 3))), (.int (22 : Int32))]) (rest := []) (lenOf own_pd26 rfl) rfl (Nat.le_of_eq rfl) (hb hby at_517) rfl
  refine Gd.go (fun _ w_k => st128 _ w_k) ?_
  show Gd _ _ _ _ (T128.setTop (mkF m 520 #[.val (.long xx), .second, .val (.int sh), .val (.long (Int64.ofNat n)), .second, .val (.ref b1), .val (.int (Int32.ofNat k)), .val (.int (Int32.ofNat (k + (k - 1) / 3))), .val (.ref t)] [(.int (1 : Int32))]))
  refine Gd.go (fun _ w_k => XS.ifNo X128.here hx rfl (hb hby at_520) rfl ((if0 _ _).trans (feq (by decide)).1) w_k) ?_
  show Gd _ _ _ _ (T128.setTop (mkF m 523 #[.val (.long xx), .second, .val (.int sh), .val (.long (Int64.ofNat n)), .second, .val (.ref b1), .val (.int (Int32.ofNat k)), .val (.int (Int32.ofNat (k + (k - 1) / 3))), .val (.ref t)] []))
  refine Gd.go (fun _ w_k => XS.aload X128.here hx rfl (hb hby at_523) rfl rfl w_k) ?_
  show Gd _ _ _ _ (T128.setTop (mkF m 525 #[.val (.long xx), .second, .val (.int sh), .val (.long (Int64.ofNat n)), .second, .val (.ref b1), .val (.int (Int32.ofNat k)), .val (.int (Int32.ofNat (k + (k - 1) / 3))), .val (.ref t)] [(.ref t)]))
  refine Gd.go (fun _ w_k => XS.lloadN X128.here hx rfl (hb hby at_525) rfl w_k) ?_
  show Gd _ _ _ _ (T128.setTop (mkF m 526 #[.val (.long xx), .second, .val (.int sh), .val (.long (Int64.ofNat n)), .second, .val (.ref b1), .val (.int (Int32.ofNat k)), .val (.int (Int32.ofNat (k + (k - 1) / 3))), .val (.ref t)] [(.long (Int64.ofNat n)), (.ref t)]))
  refine Gd.go (fun _ w_k => XS.aload X128.here hx rfl (hb hby at_526) rfl rfl w_k) ?_
  show Gd _ _ _ _ (T128.setTop (mkF m 528 #[.val (.long xx), .second, .val (.int sh), .val (.long (Int64.ofNat n)), .second, .val (.ref b1), .val (.int (Int32.ofNat k)), .val (.int (Int32.ofNat (k + (k - 1) / 3))), .val (.ref t)] [(.ref b1), (.long (Int64.ofNat n)), (.ref t)]))
  refine Gd.go (fun _ w_k => XS.iload X128.here hx rfl (hb hby at_528) rfl w_k) ?_
  show Gd _ _ _ _ (T128.setTop (mkF m 530 #[.val (.long xx), .second, .val (.int sh), .val (.long (Int64.ofNat n)), .second, .val (.ref b1), .val (.int (Int32.ofNat k)), .val (.int (Int32.ofNat (k + (k - 1) / 3))), .val (.ref t)] [(.int (Int32.ofNat (k + (k - 1) / 3))), (.ref b1), (.long (Int64.ofNat n)), (.ref t)]))
  refine Gd.go (fun _ w_k => XS.bipush X128.here hx rfl (hb hby at_530) w_k) ?_
  show Gd _ _ _ _ (T128.setTop (mkF m 532 #[.val (.long xx), .second, .val (.int sh), .val (.long (Int64.ofNat n)), .second, .val (.ref b1), .val (.int (Int32.ofNat k)), .val (.int (Int32.ofNat (k + (k - 1) / 3))), .val (.ref t)] [(.int (23 : Int32)), (.int (Int32.ofNat (k + (k - 1) / 3))), (.ref b1), (.long (Int64.ofNat n)), (.ref t)]))
  obtain ⟨T129, X129, e129, st129⟩ := own_callSP X128 hx hZ (y := (⟨"com/example/yuletally/yuletally/engine/DigitsGroupedPinLaw", "at", "(Ljava/lang/String;J[JII)Z"⟩ : MethodName)) hown (hw _ (List.mem_of_getElem? (i := 182) rfl)) (hw _ (List.mem_of_getElem? (i := 183) rfl)) (hw _ (List.mem_of_getElem? (i := 22) rfl)) (hw _ (List.mem_of_getElem? (i := 184) rfl)) (by decide) (W := 0) (own_c27 l Z a0 hw cs fv gv d1 d2 G T101.heap n0 O1 n k hn hk (k + (k - 1) / 3) rfl b1 xF102 t W HT 23 (by decide)) rfl rfl e128 (by decide) (by decide) (g := (mkF m 532 #[.val (.long xx), .second, .val (.int sh), .val (.long (Int64.ofNat n)), .second, .val (.ref b1), .val (.int (Int32.ofNat k)), .val (.int (Int32.ofNat (k + (k - 1) / 3))), .val (.ref t)] [(.int (23 : Int32)), (.int (Int32.ofNat (k + (k - 1) / 3))), (.ref b1), (.long (Int64.ofNat n)), (.ref t)])) rfl (by rw [hml]; rfl) (argsL := [(.ref t), (.long (Int64.ofNat n)), (.ref b1), (.int (Int32.ofNat (k + (k - 1) / 3))), (.int (23 : Int32))]) (rest := []) (lenOf own_pd26 rfl) rfl (Nat.le_of_eq rfl) (hb hby at_532) rfl
  refine Gd.go (fun _ w_k => st129 _ w_k) ?_
  show Gd _ _ _ _ (T129.setTop (mkF m 535 #[.val (.long xx), .second, .val (.int sh), .val (.long (Int64.ofNat n)), .second, .val (.ref b1), .val (.int (Int32.ofNat k)), .val (.int (Int32.ofNat (k + (k - 1) / 3))), .val (.ref t)] [(.int (1 : Int32))]))
  refine Gd.go (fun _ w_k => XS.ifNo X129.here hx rfl (hb hby at_535) rfl ((if0 _ _).trans (feq (by decide)).1) w_k) ?_
  show Gd _ _ _ _ (T129.setTop (mkF m 538 #[.val (.long xx), .second, .val (.int sh), .val (.long (Int64.ofNat n)), .second, .val (.ref b1), .val (.int (Int32.ofNat k)), .val (.int (Int32.ofNat (k + (k - 1) / 3))), .val (.ref t)] []))
  refine Gd.go (fun _ w_k => XS.aload X129.here hx rfl (hb hby at_538) rfl rfl w_k) ?_
  show Gd _ _ _ _ (T129.setTop (mkF m 540 #[.val (.long xx), .second, .val (.int sh), .val (.long (Int64.ofNat n)), .second, .val (.ref b1), .val (.int (Int32.ofNat k)), .val (.int (Int32.ofNat (k + (k - 1) / 3))), .val (.ref t)] [(.ref t)]))
  refine Gd.go (fun _ w_k => XS.lloadN X129.here hx rfl (hb hby at_540) rfl w_k) ?_
  show Gd _ _ _ _ (T129.setTop (mkF m 541 #[.val (.long xx), .second, .val (.int sh), .val (.long (Int64.ofNat n)), .second, .val (.ref b1), .val (.int (Int32.ofNat k)), .val (.int (Int32.ofNat (k + (k - 1) / 3))), .val (.ref t)] [(.long (Int64.ofNat n)), (.ref t)]))
  refine Gd.go (fun _ w_k => XS.aload X129.here hx rfl (hb hby at_541) rfl rfl w_k) ?_
  show Gd _ _ _ _ (T129.setTop (mkF m 543 #[.val (.long xx), .second, .val (.int sh), .val (.long (Int64.ofNat n)), .second, .val (.ref b1), .val (.int (Int32.ofNat k)), .val (.int (Int32.ofNat (k + (k - 1) / 3))), .val (.ref t)] [(.ref b1), (.long (Int64.ofNat n)), (.ref t)]))
  refine Gd.go (fun _ w_k => XS.iload X129.here hx rfl (hb hby at_543) rfl w_k) ?_
  show Gd _ _ _ _ (T129.setTop (mkF m 545 #[.val (.long xx), .second, .val (.int sh), .val (.long (Int64.ofNat n)), .second, .val (.ref b1), .val (.int (Int32.ofNat k)), .val (.int (Int32.ofNat (k + (k - 1) / 3))), .val (.ref t)] [(.int (Int32.ofNat (k + (k - 1) / 3))), (.ref b1), (.long (Int64.ofNat n)), (.ref t)]))
  refine Gd.go (fun _ w_k => XS.bipush X129.here hx rfl (hb hby at_545) w_k) ?_
  show Gd _ _ _ _ (T129.setTop (mkF m 547 #[.val (.long xx), .second, .val (.int sh), .val (.long (Int64.ofNat n)), .second, .val (.ref b1), .val (.int (Int32.ofNat k)), .val (.int (Int32.ofNat (k + (k - 1) / 3))), .val (.ref t)] [(.int (24 : Int32)), (.int (Int32.ofNat (k + (k - 1) / 3))), (.ref b1), (.long (Int64.ofNat n)), (.ref t)]))
  obtain ⟨T130, X130, e130, st130⟩ := own_callSP X129 hx hZ (y := (⟨"com/example/yuletally/yuletally/engine/DigitsGroupedPinLaw", "at", "(Ljava/lang/String;J[JII)Z"⟩ : MethodName)) hown (hw _ (List.mem_of_getElem? (i := 182) rfl)) (hw _ (List.mem_of_getElem? (i := 183) rfl)) (hw _ (List.mem_of_getElem? (i := 22) rfl)) (hw _ (List.mem_of_getElem? (i := 184) rfl)) (by decide) (W := 0) (own_c27 l Z a0 hw cs fv gv d1 d2 G T101.heap n0 O1 n k hn hk (k + (k - 1) / 3) rfl b1 xF102 t W HT 24 (by decide)) rfl rfl e129 (by decide) (by decide) (g := (mkF m 547 #[.val (.long xx), .second, .val (.int sh), .val (.long (Int64.ofNat n)), .second, .val (.ref b1), .val (.int (Int32.ofNat k)), .val (.int (Int32.ofNat (k + (k - 1) / 3))), .val (.ref t)] [(.int (24 : Int32)), (.int (Int32.ofNat (k + (k - 1) / 3))), (.ref b1), (.long (Int64.ofNat n)), (.ref t)])) rfl (by rw [hml]; rfl) (argsL := [(.ref t), (.long (Int64.ofNat n)), (.ref b1), (.int (Int32.ofNat (k + (k - 1) / 3))), (.int (24 : Int32))]) (rest := []) (lenOf own_pd26 rfl) rfl (Nat.le_of_eq rfl) (hb hby at_547) rfl
  refine Gd.go (fun _ w_k => st130 _ w_k) ?_
  show Gd _ _ _ _ (T130.setTop (mkF m 550 #[.val (.long xx), .second, .val (.int sh), .val (.long (Int64.ofNat n)), .second, .val (.ref b1), .val (.int (Int32.ofNat k)), .val (.int (Int32.ofNat (k + (k - 1) / 3))), .val (.ref t)] [(.int (1 : Int32))]))
  refine Gd.go (fun _ w_k => XS.ifNo X130.here hx rfl (hb hby at_550) rfl ((if0 _ _).trans (feq (by decide)).1) w_k) ?_
  show Gd _ _ _ _ (T130.setTop (mkF m 553 #[.val (.long xx), .second, .val (.int sh), .val (.long (Int64.ofNat n)), .second, .val (.ref b1), .val (.int (Int32.ofNat k)), .val (.int (Int32.ofNat (k + (k - 1) / 3))), .val (.ref t)] []))
  refine Gd.go (fun _ w_k => XS.iconst X130.here hx rfl (hb hby at_553) w_k) ?_
  show Gd _ _ _ _ (T130.setTop (mkF m 554 #[.val (.long xx), .second, .val (.int sh), .val (.long (Int64.ofNat n)), .second, .val (.ref b1), .val (.int (Int32.ofNat k)), .val (.int (Int32.ofNat (k + (k - 1) / 3))), .val (.ref t)] [(.int (1 : Int32))]))
  refine Gd.go (fun _ w_k => XS.goto X130.here hx rfl (pc0 := 554) (pc' := 558) rfl (hb hby at_554) (by decide) (by decide) w_k) ?_
  show Gd _ _ _ _ (T130.setTop (mkF m 558 #[.val (.long xx), .second, .val (.int sh), .val (.long (Int64.ofNat n)), .second, .val (.ref b1), .val (.int (Int32.ofNat k)), .val (.int (Int32.ofNat (k + (k - 1) / 3))), .val (.ref t)] [(.int (1 : Int32))]))
  refine own_retN (t := .boolean) X130 hx hret hlk (by simp) (hb hby at_558) ?_ (by decide) (by decide)
  exact ⟨rfl, xN104⟩
theorem own_elem {args : Array Value} {s : State} {t u : Term} {idx : List Nat} {a : Addr} {j : Int32} {v : Value} {cell : Cell} (h : (Term.elem t u).eval args s none idx s = some v) (ht : t.eval args s none idx s = some (.ref a)) (hu : u.eval args s none idx s = some (.int j)) (hc : s.arrayAt? a = some cell) : cell.slots[j.toNatClampNeg]? = some v := by
  simp only [Term.eval, ht, hu, Option.bind_eq_bind, Option.bind_some, hc] at h
  split at h
  · cases h
  · exact h
theorem own_eqI {args : Array Value} {s : State} {a : Term} {k : Int32} (h : (Jvm.Cond.eq a (Term.int k)).value args s none s [] = some true) : a.eval args s none [] s = some (.int k) := by
  obtain ⟨v, y, e1, e2, k1, k2⟩ := cmp_v (Or.inl h)
  have hy : y = .int k := (Option.some.inj e2).symm
  subst hy
  obtain ⟨z, rfl⟩ := k2
  have hz : z = k := by simpa [Cond.value, e1, e2] using h
  rw [e1, hz]
/-- a table of digits, out of its words -/
theorem own_tabl {C n d : String} {s : State} {args : Array Value} {f : Nat → Nat} {X : Term} (h1 : (Jvm.Cond.exactly (Term.static C n d) "[B").before args s = true) (h2 : (Jvm.Cond.eq (Term.length (Term.static C n d)) (Term.int (100 : Int32))).before args s = true)
    (h3 : (Jvm.Cond.all (Term.static C n d) (Jvm.Cond.eq (Term.elem (Term.static C n d) (Term.index 0)) X)).before args s = true) (hX : ∀ i, i < 100 → X.eval args s none [i] s = some (.int (Int32.ofNat (f i)))) (wa : (Jvm.Cond.arrayClass .byte).before args s = true)
    (wi : (Jvm.Cond.initializedFor C n d).before args s = true) : ∃ a, Sta s s.heap C n d (.ref a) ∧ ArF s s.heap a .byte 100 (own_iv f) := by
  have h1' := Cond.before_iff.mp h1
  have h2' := Cond.before_iff.mp h2
  have h3' := Cond.before_iff.mp h3
  obtain ⟨a, ev⟩ := exa_v h1'
  obtain ⟨cell, k, e1, e2, e3, e4, -⟩ := Exa.start ev h1'
  obtain ⟨c, k2, comp, g1, g2, g3⟩ := Cond.arrayClass_spec wa
  have g1' : s.vm.findClass "[B" = some c := g1
  have ec : cell.cls = c := Option.some.inj (e2.symm.trans g1')
  subst ec
  have hl := own_eqI h2'
  have evi : ∀ idx, (Term.static C n d).eval args s none idx s = some (.ref a) := fun idx => by
    rw [← ev]; simp only [Term.eval]
  obtain ⟨cl, hcl⟩ : ∃ cl, s.arrayAt? a = some cl := by
    simp only [Term.eval, Option.bind_eq_bind] at ev hl
    rw [ev] at hl
    simp only [Option.bind_some] at hl
    cases hq : s.arrayAt? a with
    | none => simp [hq] at hl
    | some cl => exact ⟨cl, rfl⟩
  have hu : cell = cl ∧ cell.vm ≠ .unknown := by
    have q := hcl
    simp only [State.arrayAt?, e1, g2, Option.bind_eq_bind, Option.bind_some] at q
    split at q
    · cases q
    · rename_i r
      rw [g3] at q
      exact ⟨Option.some.inj q, fun z => r (Or.inl z)⟩
  obtain ⟨eu, hv⟩ := hu
  subst eu
  have hs : cell.slots.size = 100 := by
    simp only [Term.eval, Option.bind_eq_bind] at ev hl
    rw [ev] at hl
    simp only [Option.bind_some, hcl] at hl
    split at hl
    · rename_i q
      have := Value.int.inj (Option.some.inj hl)
      have e := congrArg Int32.toInt this
      have e2 : cell.slots.size.toInt32.toInt = cell.slots.size := len_toInt q
      have e5 : (100 : Int32).toInt = 100 := rfl
      omega
    · cases hl
  have A : Arr s s.heap a cell .byte := ⟨e1, ⟨fun q z => (by rw [z] at e4; cases e4), k2, g2, comp, g3⟩, hv⟩
  refine ⟨a, Sta.start ev (Or.inl wi), cell, A, hs, by decide, fun i hi => ?_⟩
  have q := Cond.all_elim (evi []) hcl h3' i (by omega)
  obtain ⟨v, y, u1, u2, k1', k2'⟩ := cmp_v (Or.inl q)
  rw [hX i hi] at u2
  have hy : y = .int (Int32.ofNat (f i)) := (Option.some.inj u2).symm
  subst hy
  obtain ⟨z, rfl⟩ := k2'
  have hz : z = Int32.ofNat (f i) := by simpa [Cond.value, u1, hX i hi] using q
  subst hz
  have ej : (Term.index 0).eval args s none [i] s = some (.int (Int32.ofNat i)) := by
    have := idx_at (args := args) (s := s) (first := s) (o := none) (j := Int32.ofNat i) (by rw [Int32.lt_iff_toInt_lt, own_ofN (by omega)]; have : (0 : Int32).toInt = 0 := rfl; omega)
    rw [own_ofC (by omega)] at this; exact this
  have u3 := own_elem u1 (evi [i]) ej hcl
  rw [own_ofC (by omega)] at u3
  exact u3
theorem own_onesX {args : Array Value} {s : State} : ∀ i, i < 100 → (Term.add (Term.int (48 : Int32)) (Term.rem (Term.index 0) (Term.int (10 : Int32)))).eval args s none [i] s = some (.int (Int32.ofNat (own_ones i))) := by
  intro i hi
  have ej : (Term.index 0).eval args s none [i] s = some (.int (Int32.ofNat i)) := by
    have := idx_at (args := args) (s := s) (first := s) (o := none) (j := Int32.ofNat i) (by rw [Int32.lt_iff_toInt_lt, own_ofN (by omega)]; have : (0 : Int32).toInt = 0 := rfl; omega)
    rw [own_ofC (by omega)] at this; exact this
  have e : ∀ i : Fin 100, (48 : Int32) + Int32.ofNat i.val % 10 = Int32.ofNat (own_ones i.val) := by decide +kernel
  have e' := e ⟨i, hi⟩
  simp only [Term.eval] at ej ⊢
  simp [ej]
  exact e'
theorem own_tensX {args : Array Value} {s : State} : ∀ i, i < 100 → (Term.add (Term.int (48 : Int32)) (Term.div (Term.index 0) (Term.int (10 : Int32)))).eval args s none [i] s = some (.int (Int32.ofNat (own_tens i))) := by
  intro i hi
  have ej : (Term.index 0).eval args s none [i] s = some (.int (Int32.ofNat i)) := by
    have := idx_at (args := args) (s := s) (first := s) (o := none) (j := Int32.ofNat i) (by rw [Int32.lt_iff_toInt_lt, own_ofN (by omega)]; have : (0 : Int32).toInt = 0 := rfl; omega)
    rw [own_ofC (by omega)] at this; exact this
  have e : ∀ i : Fin 100, (48 : Int32) + Int32.ofNat i.val / 10 = Int32.ofNat (own_tens i.val) := by decide +kernel
  have e' := e ⟨i, hi⟩
  simp only [Term.eval] at ej ⊢
  simp [ej]
  exact e'
set_option maxRecDepth 65536 in
set_option maxHeartbeats 40000000 in
theorem comes_1 {Post : Tables → Env → Array Value → State → Outcome → State → Prop} (hpost : ∀ tb e args s v u, (limb_1_1.after args s (.returned v) u = true ∧ limb_1_2.after args s (.returned v) u = true ∧ True) → FrameEnd s (.returned v) u (Jvm.fieldLocs frame_1_writes args s ++ Jvm.arrayLocs frame_1_arrays args s ++ Jvm.staticLocs frame_1_statics s) 24 320 → Post tb e args s (.returned v) u) :
    ArmFor flags0 classFile x code maxLocals ret World_1 tables_1 room_1 Calls_1 rest_1 Pre_1 Post := by
  intro l hfl _ _ p e ha hc hk s m args below hf hA hF happ hP
  obtain ⟨hcalls, hrest, hpre⟩ := hP
  obtain ⟨-, -, -, hnamed, -, -, -, hat⟩ := (Spec.applies_iff hf).mp happ
  obtain ⟨hg, hn⟩ := and_e (Cond.before_iff.mp (show (Jvm.Cond.and given_1 narrow_1).before args s = true from hpre))
  obtain ⟨h1, g0⟩ := and_e hg
  obtain ⟨k0, g1⟩ := and_e g0
  obtain ⟨w0, w1, rfl⟩ : ∃ w0 w1 : Value, args = #[w0, w1] := by
    have hs : args.size = 2 := by simpa [Cond.value, given_1] using h1
    obtain ⟨L⟩ := args
    match L, hs with
    | [w0, w1], _ => exact ⟨w0, w1, rfl⟩
  have hw := fun d (hd : d ∈ tables_1) => atoms_spec (ws := Jvm.Cond.code x code maxLocals ret :: tables_1) hat d (List.mem_cons_of_mem _ hd)
  have hfit : Fit s := fun {y c} hc i hi => by
    obtain ⟨ha, rfl⟩ := Array.getElem?_eq_some_iff.mp hc
    have q := List.all_eq_true.mp ((Array.all_eq_true_iff_forall_mem.mp hF) _ (Array.getElem_mem ha)) i (List.mem_range.mpr hi)
    simpa [Array.getElem?_eq_getElem hi] using q
  obtain ⟨i0, e0⟩ := isL_v k0
  obtain rfl : w0 = (.long i0) := Option.some.inj e0
  obtain ⟨i1, e1⟩ := is_v g1
  obtain rfl : w1 = (.int i1) := Option.some.inj e1
  have hr := (atoms_of jdkStatics_1 (show (jdkStatics_1.foldr Jvm.Cond.and restOwn_1).before _ s = true from hrest)).1
  obtain ⟨cs, ecs⟩ := is_v (Cond.before_iff.mp (hr _ (List.mem_of_getElem? (i := 1) rfl)))
  have hcs : ¬ cs = 0 := fun q => by
    have z := not_v (Cond.before_iff.mp (hr _ (List.mem_of_getElem? (i := 2) rfl)))
    rw [q] at ecs
    have z2 : (Jvm.Cond.eq (Term.static "java/lang/String" "COMPACT_STRINGS" "Z") (Term.int (0 : Int32))).value _ s none s [] = some true := eq_i ecs (Term.int_eval (0)) rfl
    rw [z2] at z; cases z
  have S1 := Sta.start ecs (Or.inl (hr _ (List.mem_of_getElem? (i := 0) rfl)))
  obtain ⟨fv, efv, ffv⟩ := static_fit hfit (hw _ (List.mem_of_getElem? (i := 106) rfl)) (ty := .object "java/util/function/BiFunction") (by decide)
  have S2 := Sta.start efv (Or.inr ⟨(hw _ (List.mem_of_getElem? (i := 105) rfl)), (hw _ (List.mem_of_getElem? (i := 106) rfl))⟩)
  obtain ⟨gv, egv, rgv⟩ := isR_v (Cond.before_iff.mp (hr _ (List.mem_of_getElem? (i := 8) rfl)))
  have S3 := Sta.start egv (Or.inl (hr _ (List.mem_of_getElem? (i := 7) rfl)))
  obtain ⟨d1, S4, A4⟩ := own_tabl (f := own_ones) (hr _ (List.mem_of_getElem? (i := 12) rfl)) (hr _ (List.mem_of_getElem? (i := 13) rfl)) (hr _ (List.mem_of_getElem? (i := 14) rfl)) own_onesX (hw _ (List.mem_of_getElem? (i := 38) rfl)) (hr _ (List.mem_of_getElem? (i := 11) rfl))
  obtain ⟨d2, S5, A5⟩ := own_tabl (f := own_tens) (hr _ (List.mem_of_getElem? (i := 17) rfl)) (hr _ (List.mem_of_getElem? (i := 18) rfl)) (hr _ (List.mem_of_getElem? (i := 19) rfl)) own_tensX (hw _ (List.mem_of_getElem? (i := 38) rfl)) (hr _ (List.mem_of_getElem? (i := 16) rfl))
  have GG : own_G s cs fv gv d1 d2 := ⟨hcs, S1, S2, by cases fv <;> simp [fits] at ffv <;> rfl, S3, by cases gv <;> simp [Value.isRef] at rgv <;> rfl, S4, A4, S5, A5⟩
  obtain ⟨n, o, h1, h2, h3, _, L, rfl, ⟨rfl, N⟩, hq⟩ := own_law l s _ hw i0 i1 cs fv gv d1 d2 GG s.heap s.heap.size (Old.start s) (Nat.le_refl _) p e ha hc hk s m _ below hf ((Spec.applies_iff_loose hf).mp happ).1 ⟨rfl, State.Warmed39.refl s, rfl⟩ trivial
  refine ⟨n, _, h1, h2, h3, hpost _ _ _ _ _ _ ⟨Cond.after_iff.mpr rfl, Cond.after_iff.mpr (eq_i res_at (Term.int_eval (1)) rfl), trivial⟩ ⟨hq.1, hq.2.1, (hq.2.2.sift fun y hy => Or.inr (N y hy)).mono (by decide) (by decide)⟩⟩
theorem main_1_1 : Claimed_1_1 := comes_1 fun _ _ _ _ _ _ h hF => ⟨h.1, hF⟩
theorem main_1_2 : Claimed_1_2 := comes_1 fun _ _ _ _ _ _ h hF => ⟨h.2.1, hF⟩
end Jvm.Pilot.@@N@@
namespace Jvm.Pilot.@@N@@
open Jvm Jvm.ClassFile Sem Op Lib Jvm.Free Jvm.Stand Jvm.Pilot.@@N@@.Jvm.D
/-! MADE BY PROGRAM (witnessworld.py) out of the Statement's table words and the real class files: 28 classes; the members and pool entries that the words name. The judged class is class 1, her method 1. -/
namespace start1
open Jvm.ClassFile
def u (s : String) : CpInfo := .utf8 (stringToUtf16 s)
/-- a pool by its gaps: so many unusable entries, then the entry; so many at the end -/
def gap : Nat → List CpInfo → List CpInfo
  | 0, r => r
  | n + 1, r => .unusable :: gap n r
def poolList (es : List (Nat × CpInfo)) (last : Nat) : List CpInfo := es.foldr (fun e r => gap e.1 (e.2 :: r)) (gap last [])
def pool (es : List (Nat × CpInfo)) (last : Nat) : Array CpInfo := ⟨poolList es last⟩
def fileOf (pool : Array CpInfo) (this : Nat) (attrs : Array Attribute := #[]) (ms : Array MethodInfo := #[]) (fl : Nat := 33) (sup : Nat := 0) (ifs : Array Nat := #[]) (fds : Array FieldInfo := #[]) : ClassFile where
  minorVersion := 0
  majorVersion := 65
  constantPool := pool
  accessFlags := fl
  thisClass := this
  superClass := sup
  interfaces := ifs
  fields := fds
  methods := ms
  attributes := attrs
def plain (name : String) (sup : Option ClassId) : Class where
  name := name
  kind := .ordinary
  loader := none
  accessFlags := 33
  super := sup
  interfaces := #[]
  cf := none
  fields := #[]
  methods := #[]
  instanceTypes := #[]
  staticTypes := #[]
  resolved := #[]
  callSites := []
  init := .initialized
  statics := none
  mirror := none

def pool0 : Array CpInfo := pool [(5, u "<init>"), (0, u "()V"), (1, .class_ 10), (1, u "java/lang/Object"), (85, u "clone"), (0, u "()Ljava/lang/Object;")] 26

def k0c0 : Code := { maxStack := 0, maxLocals := 1, code := object_method_1_code, exceptionTable := #[], attributes := #[] }
def k0m0 : Method := { name := "<init>", desc := "()V", sig := { parameters := [], returnType := none }, accessFlags := 1, code := some k0c0 }
def k0m1 : Method := { name := "clone", desc := "()Ljava/lang/Object;", sig := { parameters := [], returnType := some (.object "java/lang/Object") }, accessFlags := 260, code := none }
/-- java/lang/Object -/
def k0 : Class := { plain "java/lang/Object" none with
  accessFlags := 33
  interfaces := #[]
  cf := some (fileOf pool0 8 #[] #[{ accessFlags := 1, nameIndex := 5, descriptorIndex := 6, attributes := #[] }, { accessFlags := 260, nameIndex := 96, descriptorIndex := 97, attributes := #[] }] 33 0 #[] #[])
  fields := #[]
  methods := #[k0m0, k0m1]
  instanceTypes := #[]
  staticTypes := #[]
  resolved := Array.replicate 124 none
  statics := none }

def pool1 : Array CpInfo := pool [(2, .class_ 4), (1, u "java/lang/Object"), (0, u "<init>"), (0, u "()V"), (2, .long 9223372036854775807), (1, .long 10), (1, .long 100), (1, .long 1000), (1, .long 10000), (1, .long 100000), (1, .long 1000000), (1, .long 10000000), (1, .long 100000000), (1, .long 1000000000), (1, .long 10000000000), (1, .long 100000000000), (1, .long 1000000000000), (1, .long 10000000000000), (1, .long 100000000000000), (1, .long 1000000000000000), (1, .long 10000000000000000), (1, .long 100000000000000000), (1, .long 1000000000000000000), (1, .methodref 48 49), (0, .class_ 50), (0, .nameAndType 51 52), (0, u "com/example/yuletally/yuletally/engine/DigitsGroupedPinLaw"), (0, u "digitCount"), (0, u "(J[J)I"), (0, .methodref 54 55), (0, .class_ 56), (0, .nameAndType 57 58), (0, u "com/example/yuletally/yuletally/engine/Digits"), (0, u "grouped"), (0, u "(J)Ljava/lang/String;"), (0, .methodref 60 61), (0, .class_ 62), (0, .nameAndType 63 64), (0, u "java/lang/String"), (0, u "length"), (0, u "()I"), (0, .methodref 48 66), (0, .nameAndType 67 68), (0, u "at"), (0, u "(Ljava/lang/String;J[JII)Z"), (0, .methodref 60 70), (0, .nameAndType 71 72), (0, u "charAt"), (0, u "(I)C"), (2, u "law"), (0, u "(JI)Z")] 5

def k1m0 : Method := { name := "<init>", desc := "()V", sig := { parameters := [], returnType := none }, accessFlags := 2, code := none }
def k1c1 : Code := { maxStack := 6, maxLocals := 9, code := code, exceptionTable := #[], attributes := #[] }
def k1m1 : Method := { name := "law", desc := "(JI)Z", sig := { parameters := [.long, .int], returnType := some .boolean }, accessFlags := 9, code := some k1c1 }
def k1c2 : Code := { maxStack := 4, maxLocals := 4, code := method_3_code, exceptionTable := #[], attributes := #[] }
def k1m2 : Method := { name := "digitCount", desc := "(J[J)I", sig := { parameters := [.long, (.array .long)], returnType := some .int }, accessFlags := 10, code := some k1c2 }
def k1c3 : Code := { maxStack := 5, maxLocals := 9, code := method_4_code, exceptionTable := #[], attributes := #[] }
def k1m3 : Method := { name := "at", desc := "(Ljava/lang/String;J[JII)Z", sig := { parameters := [(.object "java/lang/String"), .long, (.array .long), .int, .int], returnType := some .boolean }, accessFlags := 10, code := some k1c3 }
/-- com/example/yuletally/yuletally/engine/DigitsGroupedPinLaw -/
def k1 : Class := { plain "com/example/yuletally/yuletally/engine/DigitsGroupedPinLaw" (some 0) with
  accessFlags := 49
  interfaces := #[]
  cf := some (fileOf pool1 48 #[] #[{ accessFlags := 2, nameIndex := 5, descriptorIndex := 6, attributes := #[] }, { accessFlags := 9, nameIndex := 75, descriptorIndex := 76, attributes := #[] }, { accessFlags := 10, nameIndex := 51, descriptorIndex := 52, attributes := #[] }, { accessFlags := 10, nameIndex := 67, descriptorIndex := 68, attributes := #[] }] 49 2 #[] #[])
  fields := #[]
  methods := #[k1m0, k1m1, k1m2, k1m3]
  instanceTypes := #[]
  staticTypes := #[]
  resolved := Array.replicate 82 none
  statics := none }

def pool2 : Array CpInfo := pool [(2, .class_ 4), (1, u "java/lang/Object"), (0, u "<init>"), (0, u "()V"), (0, .methodref 8 9), (0, .class_ 10), (0, .nameAndType 11 12), (0, u "java/lang/String"), (0, u "length"), (0, u "()I"), (1, .class_ 16), (1, u "com/example/yuletally/yuletally/engine/Digits"), (21, .methodref 39 40), (0, .class_ 41), (0, .nameAndType 42 43), (0, u "java/lang/Long"), (0, u "toString"), (0, u "(J)Ljava/lang/String;"), (0, .class_ 45), (0, u "java/lang/StringBuilder"), (0, .methodref 44 47), (0, .nameAndType 5 48), (0, u "(I)V"), (0, .methodref 44 50), (0, .nameAndType 51 52), (0, u "append"), (0, u "(Ljava/lang/CharSequence;II)Ljava/lang/StringBuilder;"), (0, .methodref 44 54), (0, .nameAndType 51 55), (0, u "(C)Ljava/lang/StringBuilder;"), (0, .methodref 44 57), (0, .nameAndType 42 58), (0, u "()Ljava/lang/String;"), (4, u "grouped")] 2

def k2m0 : Method := { name := "<init>", desc := "()V", sig := { parameters := [], returnType := none }, accessFlags := 2, code := none }
def k2c1 : Code := { maxStack := 5, maxLocals := 6, code := prog_23_method_5_code, exceptionTable := #[], attributes := #[] }
def k2m1 : Method := { name := "grouped", desc := "(J)Ljava/lang/String;", sig := { parameters := [.long], returnType := some (.object "java/lang/String") }, accessFlags := 9, code := some k2c1 }
/-- com/example/yuletally/yuletally/engine/Digits -/
def k2 : Class := { plain "com/example/yuletally/yuletally/engine/Digits" (some 0) with
  accessFlags := 49
  interfaces := #[]
  cf := some (fileOf pool2 14 #[] #[{ accessFlags := 2, nameIndex := 5, descriptorIndex := 6, attributes := #[] }, { accessFlags := 9, nameIndex := 63, descriptorIndex := 43, attributes := #[] }] 49 2 #[] #[])
  fields := #[]
  methods := #[k2m0, k2m1]
  instanceTypes := #[]
  staticTypes := #[]
  resolved := Array.replicate 66 none
  statics := none }

def pool3 : Array CpInfo := pool [(1, .class_ 2), (0, u "java/io/Serializable"), (0, .class_ 4), (0, u "java/lang/Object")] 2

/-- java/io/Serializable -/
def k3 : Class := { plain "java/io/Serializable" (some 0) with
  accessFlags := 1537
  interfaces := #[]
  cf := some (fileOf pool3 1 #[] #[] 1537 3 #[] #[])
  fields := #[]
  methods := #[]
  instanceTypes := #[]
  staticTypes := #[]
  resolved := Array.replicate 7 none
  statics := none }

def pool4 : Array CpInfo := pool [(2, .class_ 4), (1, u "java/lang/Object"), (0, u "<init>"), (0, u "()V"), (1, .class_ 10), (1, u "java/lang/Number"), (2, .class_ 14), (0, u "java/io/Serializable"), (0, u "serialVersionUID"), (0, u "J")] 20

def k4m0 : Method := { name := "<init>", desc := "()V", sig := { parameters := [], returnType := none }, accessFlags := 1, code := none }
/-- java/lang/Number -/
def k4 : Class := { plain "java/lang/Number" (some 0) with
  accessFlags := 1057
  interfaces := #[3]
  cf := some (fileOf pool4 8 #[] #[{ accessFlags := 1, nameIndex := 5, descriptorIndex := 6, attributes := #[] }] 1057 2 #[13] #[{ accessFlags := 26, nameIndex := 15, descriptorIndex := 16, attributes := #[] }])
  fields := #[{ name := "serialVersionUID", type := .long, accessFlags := 26, slot := 0, constantValue := 0 }]
  methods := #[k4m0]
  instanceTypes := #[]
  staticTypes := #[.long]
  resolved := Array.replicate 37 none
  statics := none }

def pool5 : Array CpInfo := pool [(1, .class_ 2), (0, u "java/lang/Comparable"), (0, .class_ 4), (0, u "java/lang/Object")] 7

/-- java/lang/Comparable -/
def k5 : Class := { plain "java/lang/Comparable" (some 0) with
  accessFlags := 1537
  interfaces := #[]
  cf := some (fileOf pool5 1 #[] #[] 1537 3 #[] #[])
  fields := #[]
  methods := #[]
  instanceTypes := #[]
  staticTypes := #[]
  resolved := Array.replicate 12 none
  statics := none }

def pool6 : Array CpInfo := pool [(1, .class_ 2), (0, u "java/lang/constant/Constable"), (0, .class_ 4), (0, u "java/lang/Object")] 6

/-- java/lang/constant/Constable -/
def k6 : Class := { plain "java/lang/constant/Constable" (some 0) with
  accessFlags := 1537
  interfaces := #[]
  cf := some (fileOf pool6 1 #[] #[] 1537 3 #[] #[])
  fields := #[]
  methods := #[]
  instanceTypes := #[]
  staticTypes := #[]
  resolved := Array.replicate 11 none
  statics := none }

def pool7 : Array CpInfo := pool [(1, .class_ 2), (0, u "java/lang/constant/ConstantDesc"), (0, .class_ 4), (0, u "java/lang/Object")] 32

/-- java/lang/constant/ConstantDesc -/
def k7 : Class := { plain "java/lang/constant/ConstantDesc" (some 0) with
  accessFlags := 1537
  interfaces := #[]
  cf := some (fileOf pool7 1 #[] #[] 1537 3 #[] #[])
  fields := #[]
  methods := #[]
  instanceTypes := #[]
  staticTypes := #[]
  resolved := Array.replicate 37 none
  statics := none }

def pool8 : Array CpInfo := pool [(1, .class_ 2), (0, u "java/lang/Long"), (2, .class_ 6), (0, u "java/lang/String"), (4, u "toString"), (0, u "(J)Ljava/lang/String;"), (0, .fieldref 5 14), (0, .nameAndType 15 16), (0, u "COMPACT_STRINGS"), (0, u "Z"), (1, .class_ 20), (1, u "java/lang/Integer"), (32, .long 10), (5, u "<init>"), (41, u "(J)I"), (10, .methodref 5 113), (0, .nameAndType 59 114), (0, u "([BB)V"), (3, .methodref 1 119), (0, .nameAndType 120 101), (0, u "stringSize"), (0, .methodref 1 122), (0, .nameAndType 123 124), (0, u "getChars"), (0, u "(JI[B)I"), (4, .long 18446744071562067968), (1, .long 100), (1, .fieldref 18 134), (0, .nameAndType 135 136), (0, u "DigitOnes"), (0, u "[B"), (0, .fieldref 18 138), (0, .nameAndType 139 136), (0, u "DigitTens"), (0, .long 18446744073709551606), (94, .class_ 237), (1, u "java/lang/Long$LongCache"), (33, .class_ 272), (0, u "java/lang/Number"), (2, u "value"), (0, u "J"), (84, u "TYPE"), (0, u "Ljava/lang/Class;"), (0, .class_ 364), (0, u "java/lang/Comparable"), (0, .class_ 366), (0, u "java/lang/constant/Constable"), (0, .class_ 368), (0, u "java/lang/constant/ConstantDesc"), (0, u "MIN_VALUE"), (1, u "MAX_VALUE"), (4, u "SIZE"), (0, u "I"), (1, u "BYTES"), (1, u "serialVersionUID")] 142

def k8c0 : Code := { maxStack := 4, maxLocals := 4, code := jdk_35_method_12_code, exceptionTable := #[], attributes := #[] }
def k8m0 : Method := { name := "toString", desc := "(J)Ljava/lang/String;", sig := { parameters := [.long], returnType := some (.object "java/lang/String") }, accessFlags := 9, code := some k8c0 }
def k8c1 : Code := { maxStack := 4, maxLocals := 11, code := jdk_35_method_14_code, exceptionTable := #[], attributes := #[] }
def k8m1 : Method := { name := "getChars", desc := "(JI[B)I", sig := { parameters := [.long, .int, (.array .byte)], returnType := some .int }, accessFlags := 8, code := some k8c1 }
def k8c2 : Code := { maxStack := 4, maxLocals := 6, code := jdk_35_method_15_code, exceptionTable := #[], attributes := #[] }
def k8m2 : Method := { name := "stringSize", desc := "(J)I", sig := { parameters := [.long], returnType := some .int }, accessFlags := 8, code := some k8c2 }
/-- java/lang/Long -/
def k8 : Class := { plain "java/lang/Long" (some 4) with
  accessFlags := 49
  interfaces := #[5, 6, 7]
  cf := some (fileOf pool8 1 #[.nestMembers #[235]] #[{ accessFlags := 9, nameIndex := 11, descriptorIndex := 12, attributes := #[] }, { accessFlags := 8, nameIndex := 123, descriptorIndex := 124, attributes := #[] }, { accessFlags := 8, nameIndex := 120, descriptorIndex := 101, attributes := #[] }] 49 271 #[363, 365, 367] #[{ accessFlags := 25, nameIndex := 369, descriptorIndex := 276, attributes := #[] }, { accessFlags := 25, nameIndex := 371, descriptorIndex := 276, attributes := #[] }, { accessFlags := 25, nameIndex := 361, descriptorIndex := 362, attributes := #[] }, { accessFlags := 18, nameIndex := 275, descriptorIndex := 276, attributes := #[] }, { accessFlags := 25, nameIndex := 376, descriptorIndex := 377, attributes := #[] }, { accessFlags := 25, nameIndex := 379, descriptorIndex := 377, attributes := #[] }, { accessFlags := 26, nameIndex := 381, descriptorIndex := 276, attributes := #[] }])
  fields := #[{ name := "MIN_VALUE", type := .long, accessFlags := 25, slot := 0, constantValue := 0 }, { name := "MAX_VALUE", type := .long, accessFlags := 25, slot := 1, constantValue := 0 }, { name := "TYPE", type := (.object "java/lang/Class"), accessFlags := 25, slot := 2, constantValue := 0 }, { name := "value", type := .long, accessFlags := 18, slot := 0, constantValue := 0 }, { name := "SIZE", type := .int, accessFlags := 25, slot := 3, constantValue := 0 }, { name := "BYTES", type := .int, accessFlags := 25, slot := 4, constantValue := 0 }, { name := "serialVersionUID", type := .long, accessFlags := 26, slot := 5, constantValue := 0 }]
  methods := #[k8m0, k8m1, k8m2]
  instanceTypes := #[.long]
  staticTypes := #[.long, .long, (.object "java/lang/Class"), .int, .int, .long]
  resolved := Array.replicate 524 none
  statics := none }

def pool9 : Array CpInfo := pool [(2, .class_ 4), (1, u "java/lang/CharSequence"), (0, u "length"), (0, u "()I"), (40, .class_ 48), (0, u "java/lang/CharSequence$1CodePointIterator"), (10, .class_ 60), (0, u "java/lang/CharSequence$1CharIterator"), (5, .class_ 67), (0, u "java/lang/Object")] 63

def k9m0 : Method := { name := "length", desc := "()I", sig := { parameters := [], returnType := some .int }, accessFlags := 1025, code := none }
/-- java/lang/CharSequence -/
def k9 : Class := { plain "java/lang/CharSequence" (some 0) with
  accessFlags := 1537
  interfaces := #[]
  cf := some (fileOf pool9 2 #[.nestMembers #[47, 59]] #[{ accessFlags := 1025, nameIndex := 5, descriptorIndex := 6, attributes := #[] }] 1537 66 #[] #[])
  fields := #[]
  methods := #[k9m0]
  instanceTypes := #[]
  staticTypes := #[]
  resolved := Array.replicate 131 none
  statics := none }

def pool10 : Array CpInfo := pool [(1, .methodref 2 3), (0, .class_ 4), (0, .nameAndType 5 6), (0, u "java/lang/Object"), (0, u "<init>"), (0, u "()V"), (2, .fieldref 10 11), (0, .class_ 12), (0, .nameAndType 13 14), (0, u "java/lang/String"), (0, u "value"), (0, u "[B"), (0, .fieldref 10 16), (0, .nameAndType 17 18), (0, u "coder"), (0, u "B"), (2, u "hash"), (0, u "I"), (2, u "hashIsZero"), (0, u "Z"), (11, .fieldref 10 39), (0, .nameAndType 40 26), (0, u "COMPACT_STRINGS"), (13, .methodref 55 56), (0, .class_ 57), (0, .nameAndType 58 59), (0, u "java/util/Arrays"), (0, u "copyOfRange"), (0, u "([BII)[B"), (47, .class_ 109), (1, u "java/lang/StringLatin1"), (32, u "()Z"), (68, u "([BB)V"), (122, u "()I"), (0, .methodref 10 336), (0, .nameAndType 17 337), (0, u "()B"), (2, u "()[B"), (22, u "([BI)C"), (27, u "(II)V"), (35, u "(I)C"), (61, .methodref 10 490), (0, .nameAndType 5 491), (0, u "(Ljava/lang/AbstractStringBuilder;Ljava/lang/Void;)V"), (0, .methodref 10 493), (0, .nameAndType 494 142), (0, u "isLatin1"), (0, .methodref 107 496), (0, .nameAndType 497 363), (0, u "charAt"), (3, u "checkIndex"), (4, .nameAndType 507 334), (0, u "length"), (41, .methodref 550 506), (0, .class_ 551), (0, u "java/lang/AbstractStringBuilder"), (0, .methodref 550 553), (0, .nameAndType 554 340), (0, u "getValue"), (20, .class_ 576), (0, u "java/lang/CharSequence"), (22, u "CASE_INSENSITIVE_ORDER"), (0, u "Ljava/util/Comparator;"), (446, .methodref 550 493), (5, .fieldref 1054 1055), (0, .class_ 1056), (0, .nameAndType 1057 1058), (0, u "jdk/internal/util/Preconditions"), (0, u "SIOOBE_FORMATTER"), (0, u "Ljava/util/function/BiFunction;"), (0, .methodref 1054 1060), (0, .nameAndType 501 1061), (0, u "(IILjava/util/function/BiFunction;)I"), (39, u "serialPersistentFields"), (0, u "[Ljava/io/ObjectStreamField;"), (0, .class_ 1104), (0, u "java/lang/String$CaseInsensitiveComparator"), (1, .class_ 1107), (0, u "java/io/Serializable"), (0, .class_ 1109), (0, u "java/lang/Comparable"), (0, .class_ 1111), (0, u "java/lang/constant/Constable"), (0, .class_ 1113), (0, u "java/lang/constant/ConstantDesc"), (2, u "serialVersionUID"), (0, u "J"), (3, u "REPL"), (0, u "C"), (2, u "LATIN1"), (1, u "UTF16"), (105, u "(Ljava/lang/StringBuilder;)V")] 217

def k10m0 : Method := { name := "<init>", desc := "()V", sig := { parameters := [], returnType := none }, accessFlags := 1, code := none }
def k10c1 : Code := { maxStack := 3, maxLocals := 2, code := jdk_42_method_53_code, exceptionTable := #[], attributes := #[] }
def k10m1 : Method := { name := "<init>", desc := "(Ljava/lang/StringBuilder;)V", sig := { parameters := [(.object "java/lang/StringBuilder")], returnType := none }, accessFlags := 1, code := some k10c1 }
def k10c2 : Code := { maxStack := 2, maxLocals := 1, code := jdk_42_method_54_code, exceptionTable := #[], attributes := #[] }
def k10m2 : Method := { name := "length", desc := "()I", sig := { parameters := [], returnType := some .int }, accessFlags := 1, code := some k10c2 }
def k10c3 : Code := { maxStack := 2, maxLocals := 2, code := jdk_42_method_56_code, exceptionTable := #[], attributes := #[] }
def k10m3 : Method := { name := "charAt", desc := "(I)C", sig := { parameters := [.int], returnType := some .char }, accessFlags := 1, code := some k10c3 }
def k10c4 : Code := { maxStack := 5, maxLocals := 5, code := jdk_42_method_150_code, exceptionTable := #[], attributes := #[] }
def k10m4 : Method := { name := "<init>", desc := "(Ljava/lang/AbstractStringBuilder;Ljava/lang/Void;)V", sig := { parameters := [(.object "java/lang/AbstractStringBuilder"), (.object "java/lang/Void")], returnType := none }, accessFlags := 0, code := some k10c4 }
def k10c5 : Code := { maxStack := 2, maxLocals := 3, code := jdk_42_method_151_code, exceptionTable := #[], attributes := #[] }
def k10m5 : Method := { name := "<init>", desc := "([BB)V", sig := { parameters := [(.array .byte), .byte], returnType := none }, accessFlags := 0, code := some k10c5 }
def k10c6 : Code := { maxStack := 1, maxLocals := 1, code := jdk_42_method_152_code, exceptionTable := #[], attributes := #[] }
def k10m6 : Method := { name := "coder", desc := "()B", sig := { parameters := [], returnType := some .byte }, accessFlags := 0, code := some k10c6 }
def k10c7 : Code := { maxStack := 1, maxLocals := 1, code := jdk_42_method_153_code, exceptionTable := #[], attributes := #[] }
def k10m7 : Method := { name := "value", desc := "()[B", sig := { parameters := [], returnType := some (.array .byte) }, accessFlags := 0, code := some k10c7 }
def k10c8 : Code := { maxStack := 1, maxLocals := 1, code := jdk_42_method_154_code, exceptionTable := #[], attributes := #[] }
def k10m8 : Method := { name := "isLatin1", desc := "()Z", sig := { parameters := [], returnType := some .boolean }, accessFlags := 0, code := some k10c8 }
def k10c9 : Code := { maxStack := 3, maxLocals := 2, code := jdk_42_method_155_code, exceptionTable := #[], attributes := #[] }
def k10m9 : Method := { name := "checkIndex", desc := "(II)V", sig := { parameters := [.int, .int], returnType := none }, accessFlags := 8, code := some k10c9 }
/-- java/lang/String -/
def k10 : Class := { plain "java/lang/String" (some 0) with
  accessFlags := 49
  interfaces := #[3, 5, 9, 6, 7]
  cf := some (fileOf pool10 10 #[.nestMembers #[1103]] #[{ accessFlags := 1, nameIndex := 5, descriptorIndex := 6, attributes := #[] }, { accessFlags := 1, nameIndex := 5, descriptorIndex := 1233, attributes := #[] }, { accessFlags := 1, nameIndex := 507, descriptorIndex := 334, attributes := #[] }, { accessFlags := 1, nameIndex := 497, descriptorIndex := 427, attributes := #[] }, { accessFlags := 0, nameIndex := 5, descriptorIndex := 491, attributes := #[] }, { accessFlags := 0, nameIndex := 5, descriptorIndex := 211, attributes := #[] }, { accessFlags := 0, nameIndex := 17, descriptorIndex := 337, attributes := #[] }, { accessFlags := 0, nameIndex := 13, descriptorIndex := 340, attributes := #[] }, { accessFlags := 0, nameIndex := 494, descriptorIndex := 142, attributes := #[] }, { accessFlags := 8, nameIndex := 501, descriptorIndex := 391, attributes := #[] }] 49 2 #[1106, 1108, 575, 1110, 1112] #[{ accessFlags := 18, nameIndex := 13, descriptorIndex := 14, attributes := #[] }, { accessFlags := 18, nameIndex := 17, descriptorIndex := 18, attributes := #[] }, { accessFlags := 2, nameIndex := 21, descriptorIndex := 22, attributes := #[] }, { accessFlags := 2, nameIndex := 25, descriptorIndex := 26, attributes := #[] }, { accessFlags := 26, nameIndex := 1116, descriptorIndex := 1117, attributes := #[] }, { accessFlags := 24, nameIndex := 40, descriptorIndex := 26, attributes := #[] }, { accessFlags := 26, nameIndex := 1101, descriptorIndex := 1102, attributes := #[] }, { accessFlags := 26, nameIndex := 1121, descriptorIndex := 1122, attributes := #[] }, { accessFlags := 25, nameIndex := 599, descriptorIndex := 600, attributes := #[] }, { accessFlags := 24, nameIndex := 1125, descriptorIndex := 18, attributes := #[] }, { accessFlags := 24, nameIndex := 1127, descriptorIndex := 18, attributes := #[] }])
  fields := #[{ name := "value", type := (.array .byte), accessFlags := 18, slot := 0, constantValue := 0 }, { name := "coder", type := .byte, accessFlags := 18, slot := 1, constantValue := 0 }, { name := "hash", type := .int, accessFlags := 2, slot := 2, constantValue := 0 }, { name := "hashIsZero", type := .boolean, accessFlags := 2, slot := 3, constantValue := 0 }, { name := "serialVersionUID", type := .long, accessFlags := 26, slot := 0, constantValue := 0 }, { name := "COMPACT_STRINGS", type := .boolean, accessFlags := 24, slot := 1, constantValue := 0 }, { name := "serialPersistentFields", type := (.array (.object "java/io/ObjectStreamField")), accessFlags := 26, slot := 2, constantValue := 0 }, { name := "REPL", type := .char, accessFlags := 26, slot := 3, constantValue := 0 }, { name := "CASE_INSENSITIVE_ORDER", type := (.object "java/util/Comparator"), accessFlags := 25, slot := 4, constantValue := 0 }, { name := "LATIN1", type := .byte, accessFlags := 24, slot := 5, constantValue := 0 }, { name := "UTF16", type := .byte, accessFlags := 24, slot := 6, constantValue := 0 }]
  methods := #[k10m0, k10m1, k10m2, k10m3, k10m4, k10m5, k10m6, k10m7, k10m8, k10m9]
  instanceTypes := #[(.array .byte), .byte, .int, .boolean]
  staticTypes := #[.long, .boolean, (.array (.object "java/io/ObjectStreamField")), .char, (.object "java/util/Comparator"), .byte, .byte]
  resolved := Array.replicate 1451 none
  statics := some 0 }

def pool11 : Array CpInfo := pool [(1, .class_ 2), (0, u "java/lang/Integer"), (16, u "digits"), (0, u "[C"), (64, u "DigitOnes"), (0, u "[B"), (2, u "DigitTens"), (99, .class_ 190), (0, u "java/lang/Integer$IntegerCache"), (3, u "I"), (8, .class_ 204), (0, u "java/lang/Number"), (2, u "value"), (94, u "TYPE"), (0, u "Ljava/lang/Class;"), (0, .class_ 305), (0, u "java/lang/Comparable"), (0, .class_ 307), (0, u "java/lang/constant/Constable"), (0, .class_ 309), (0, u "java/lang/constant/ConstantDesc"), (0, u "MIN_VALUE"), (1, u "MAX_VALUE"), (3, u "SIZE"), (1, u "BYTES"), (1, u "serialVersionUID"), (0, u "J")] 131

/-- java/lang/Integer -/
def k11 : Class := { plain "java/lang/Integer" (some 4) with
  accessFlags := 49
  interfaces := #[5, 6, 7]
  cf := some (fileOf pool11 1 #[.nestMembers #[189]] #[] 49 203 #[304, 306, 308] #[{ accessFlags := 25, nameIndex := 310, descriptorIndex := 194, attributes := #[] }, { accessFlags := 25, nameIndex := 312, descriptorIndex := 194, attributes := #[] }, { accessFlags := 25, nameIndex := 302, descriptorIndex := 303, attributes := #[] }, { accessFlags := 24, nameIndex := 19, descriptorIndex := 20, attributes := #[] }, { accessFlags := 24, nameIndex := 89, descriptorIndex := 86, attributes := #[] }, { accessFlags := 24, nameIndex := 85, descriptorIndex := 86, attributes := #[] }, { accessFlags := 18, nameIndex := 207, descriptorIndex := 194, attributes := #[] }, { accessFlags := 25, nameIndex := 316, descriptorIndex := 194, attributes := #[] }, { accessFlags := 25, nameIndex := 318, descriptorIndex := 194, attributes := #[] }, { accessFlags := 26, nameIndex := 320, descriptorIndex := 321, attributes := #[] }])
  fields := #[{ name := "MIN_VALUE", type := .int, accessFlags := 25, slot := 0, constantValue := 0 }, { name := "MAX_VALUE", type := .int, accessFlags := 25, slot := 1, constantValue := 0 }, { name := "TYPE", type := (.object "java/lang/Class"), accessFlags := 25, slot := 2, constantValue := 0 }, { name := "digits", type := (.array .char), accessFlags := 24, slot := 3, constantValue := 0 }, { name := "DigitTens", type := (.array .byte), accessFlags := 24, slot := 4, constantValue := 0 }, { name := "DigitOnes", type := (.array .byte), accessFlags := 24, slot := 5, constantValue := 0 }, { name := "value", type := .int, accessFlags := 18, slot := 0, constantValue := 0 }, { name := "SIZE", type := .int, accessFlags := 25, slot := 6, constantValue := 0 }, { name := "BYTES", type := .int, accessFlags := 25, slot := 7, constantValue := 0 }, { name := "serialVersionUID", type := .long, accessFlags := 26, slot := 8, constantValue := 0 }]
  methods := #[]
  instanceTypes := #[.int]
  staticTypes := #[.int, .int, (.object "java/lang/Class"), (.array .char), (.array .byte), (.array .byte), .int, .int, .long]
  resolved := Array.replicate 453 none
  statics := some 1 }

def pool12 : Array CpInfo := pool [(1, .class_ 2), (0, u "java/lang/Appendable"), (0, .class_ 4), (0, u "java/lang/Object")] 9

/-- java/lang/Appendable -/
def k12 : Class := { plain "java/lang/Appendable" (some 0) with
  accessFlags := 1537
  interfaces := #[]
  cf := some (fileOf pool12 1 #[] #[] 1537 3 #[] #[])
  fields := #[]
  methods := #[]
  instanceTypes := #[]
  staticTypes := #[]
  resolved := Array.replicate 14 none
  statics := none }

def pool13 : Array CpInfo := pool [(1, .class_ 2), (0, u "java/lang/String"), (0, .methodref 4 5), (0, .class_ 6), (0, .nameAndType 7 8), (0, u "java/lang/Object"), (0, u "<init>"), (0, u "()V"), (1, .class_ 12), (1, u "java/lang/AbstractStringBuilder"), (0, u "EMPTYVALUE"), (0, u "[B"), (0, .fieldref 10 16), (0, .nameAndType 17 14), (0, u "value"), (0, .fieldref 1 19), (0, .nameAndType 20 21), (0, u "COMPACT_STRINGS"), (0, u "Z"), (0, .fieldref 10 23), (0, .nameAndType 24 25), (0, u "coder"), (0, u "B"), (7, .nameAndType 34 35), (0, u "length"), (0, u "()I"), (9, u "append"), (1, .interfaceMethodref 48 33), (0, .class_ 49), (0, u "java/lang/CharSequence"), (25, u "maybeLatin1"), (3, .fieldref 10 80), (0, .nameAndType 81 82), (0, u "count"), (0, u "I"), (0, .methodref 10 84), (0, .nameAndType 85 86), (0, u "isLatin1"), (0, u "()Z"), (1, .class_ 90), (1, u "java/lang/StringLatin1"), (9, .methodref 10 101), (0, .nameAndType 102 103), (0, u "ensureCapacityInternal"), (0, u "(I)V"), (57, .methodref 162 163), (0, .class_ 164), (0, .nameAndType 165 166), (0, u "jdk/internal/util/Preconditions"), (0, u "checkFromToIndex"), (0, u "(IIILjava/util/function/BiFunction;)I"), (15, u "Ljava/util/function/BiFunction;"), (0, .fieldref 162 184), (0, .nameAndType 185 182), (0, u "IOOBE_FORMATTER"), (5, .methodref 88 192), (0, .nameAndType 193 194), (0, u "canEncode"), (0, u "(C)Z"), (30, u "(Ljava/lang/CharSequence;II)Ljava/lang/AbstractStringBuilder;"), (6, .methodref 10 233), (0, .nameAndType 234 235), (0, u "appendChars"), (0, u "(Ljava/lang/String;II)V"), (56, u "(C)Ljava/lang/AbstractStringBuilder;"), (16, .methodref 310 311), (0, .class_ 312), (0, .nameAndType 313 314), (0, u "java/lang/System"), (0, u "arraycopy"), (0, u "(Ljava/lang/Object;ILjava/lang/Object;II)V"), (85, .methodref 1 84), (0, .methodref 1 402), (0, .nameAndType 17 403), (0, u "()[B"), (40, .class_ 445), (0, u "java/lang/Appendable"), (106, u "getValue")] 56

def k13m0 : Method := { name := "<init>", desc := "()V", sig := { parameters := [], returnType := none }, accessFlags := 0, code := none }
def k13c1 : Code := { maxStack := 2, maxLocals := 2, code := jdk_68_method_2_code, exceptionTable := #[], attributes := #[] }
def k13m1 : Method := { name := "<init>", desc := "(I)V", sig := { parameters := [.int], returnType := none }, accessFlags := 0, code := some k13c1 }
def k13c2 : Code := { maxStack := 1, maxLocals := 1, code := jdk_68_method_6_code, exceptionTable := #[], attributes := #[] }
def k13m2 : Method := { name := "length", desc := "()I", sig := { parameters := [], returnType := some .int }, accessFlags := 1, code := some k13c2 }
def k13c3 : Code := { maxStack := 4, maxLocals := 3, code := jdk_68_method_9_code, exceptionTable := #[], attributes := #[] }
def k13m3 : Method := { name := "ensureCapacityInternal", desc := "(I)V", sig := { parameters := [.int], returnType := none }, accessFlags := 2, code := some k13c3 }
def k13c4 : Code := { maxStack := 4, maxLocals := 5, code := jdk_68_method_27_code, exceptionTable := #[], attributes := #[] }
def k13m4 : Method := { name := "append", desc := "(Ljava/lang/CharSequence;II)Ljava/lang/AbstractStringBuilder;", sig := { parameters := [(.object "java/lang/CharSequence"), .int, .int], returnType := some (.object "java/lang/AbstractStringBuilder") }, accessFlags := 1, code := some k13c4 }
def k13c5 : Code := { maxStack := 5, maxLocals := 2, code := jdk_68_method_31_code, exceptionTable := #[], attributes := #[] }
def k13m5 : Method := { name := "append", desc := "(C)Ljava/lang/AbstractStringBuilder;", sig := { parameters := [.char], returnType := some (.object "java/lang/AbstractStringBuilder") }, accessFlags := 1, code := some k13c5 }
def k13c6 : Code := { maxStack := 1, maxLocals := 1, code := jdk_68_method_64_code, exceptionTable := #[], attributes := #[] }
def k13m6 : Method := { name := "getValue", desc := "()[B", sig := { parameters := [], returnType := some (.array .byte) }, accessFlags := 16, code := some k13c6 }
def k13c7 : Code := { maxStack := 1, maxLocals := 1, code := jdk_68_method_68_code, exceptionTable := #[], attributes := #[] }
def k13m7 : Method := { name := "isLatin1", desc := "()Z", sig := { parameters := [], returnType := some .boolean }, accessFlags := 16, code := some k13c7 }
def k13c8 : Code := { maxStack := 6, maxLocals := 8, code := jdk_68_method_75_code, exceptionTable := #[], attributes := #[] }
def k13m8 : Method := { name := "appendChars", desc := "(Ljava/lang/String;II)V", sig := { parameters := [(.object "java/lang/String"), .int, .int], returnType := none }, accessFlags := 18, code := some k13c8 }
/-- java/lang/AbstractStringBuilder -/
def k13 : Class := { plain "java/lang/AbstractStringBuilder" (some 0) with
  accessFlags := 1056
  interfaces := #[12, 9]
  cf := some (fileOf pool13 10 #[] #[{ accessFlags := 0, nameIndex := 7, descriptorIndex := 8, attributes := #[] }, { accessFlags := 0, nameIndex := 7, descriptorIndex := 103, attributes := #[] }, { accessFlags := 1, nameIndex := 34, descriptorIndex := 35, attributes := #[] }, { accessFlags := 2, nameIndex := 102, descriptorIndex := 103, attributes := #[] }, { accessFlags := 1, nameIndex := 45, descriptorIndex := 225, attributes := #[] }, { accessFlags := 1, nameIndex := 45, descriptorIndex := 292, attributes := #[] }, { accessFlags := 16, nameIndex := 552, descriptorIndex := 403, attributes := #[] }, { accessFlags := 16, nameIndex := 85, descriptorIndex := 86, attributes := #[] }, { accessFlags := 18, nameIndex := 234, descriptorIndex := 235, attributes := #[] }] 1056 4 #[444, 48] #[{ accessFlags := 0, nameIndex := 17, descriptorIndex := 14, attributes := #[] }, { accessFlags := 0, nameIndex := 24, descriptorIndex := 25, attributes := #[] }, { accessFlags := 0, nameIndex := 75, descriptorIndex := 21, attributes := #[] }, { accessFlags := 0, nameIndex := 81, descriptorIndex := 82, attributes := #[] }, { accessFlags := 26, nameIndex := 13, descriptorIndex := 14, attributes := #[] }])
  fields := #[{ name := "value", type := (.array .byte), accessFlags := 0, slot := 0, constantValue := 0 }, { name := "coder", type := .byte, accessFlags := 0, slot := 1, constantValue := 0 }, { name := "maybeLatin1", type := .boolean, accessFlags := 0, slot := 2, constantValue := 0 }, { name := "count", type := .int, accessFlags := 0, slot := 3, constantValue := 0 }, { name := "EMPTYVALUE", type := (.array .byte), accessFlags := 26, slot := 0, constantValue := 0 }]
  methods := #[k13m0, k13m1, k13m2, k13m3, k13m4, k13m5, k13m6, k13m7, k13m8]
  instanceTypes := #[(.array .byte), .byte, .boolean, .int]
  staticTypes := #[(.array .byte)]
  resolved := Array.replicate 609 none
  statics := none }

def pool14 : Array CpInfo := pool [(1, .methodref 2 3), (0, .class_ 4), (0, .nameAndType 5 6), (0, u "java/lang/AbstractStringBuilder"), (0, u "<init>"), (0, u "(I)V"), (11, .class_ 20), (1, u "java/lang/String"), (3, .class_ 26), (1, u "java/lang/StringBuilder"), (0, u "append"), (10, .methodref 2 39), (0, .nameAndType 27 40), (0, u "(Ljava/lang/CharSequence;II)Ljava/lang/AbstractStringBuilder;"), (9, .methodref 2 51), (0, .nameAndType 27 52), (0, u "(C)Ljava/lang/AbstractStringBuilder;"), (84, .methodref 18 138), (0, .nameAndType 5 139), (0, u "(Ljava/lang/StringBuilder;)V"), (5, u "()V"), (10, u "()I"), (129, u "(C)Ljava/lang/StringBuilder;"), (11, u "(Ljava/lang/CharSequence;II)Ljava/lang/StringBuilder;"), (44, .methodref 2 344), (0, .nameAndType 345 156), (0, u "length"), (3, .class_ 350), (0, u "java/lang/Appendable"), (0, .class_ 352), (0, u "java/io/Serializable"), (0, .class_ 354), (0, u "java/lang/Comparable"), (0, .class_ 356), (0, u "java/lang/CharSequence"), (0, u "serialVersionUID"), (0, u "J"), (40, u "toString"), (0, u "()Ljava/lang/String;")] 21

def k14m0 : Method := { name := "<init>", desc := "()V", sig := { parameters := [], returnType := none }, accessFlags := 1, code := none }
def k14c1 : Code := { maxStack := 2, maxLocals := 2, code := jdk_67_method_2_code, exceptionTable := #[], attributes := #[] }
def k14m1 : Method := { name := "<init>", desc := "(I)V", sig := { parameters := [.int], returnType := none }, accessFlags := 1, code := some k14c1 }
def k14c2 : Code := { maxStack := 4, maxLocals := 4, code := jdk_67_method_10_code, exceptionTable := #[], attributes := #[] }
def k14m2 : Method := { name := "append", desc := "(Ljava/lang/CharSequence;II)Ljava/lang/StringBuilder;", sig := { parameters := [(.object "java/lang/CharSequence"), .int, .int], returnType := some (.object "java/lang/StringBuilder") }, accessFlags := 1, code := some k14c2 }
def k14c3 : Code := { maxStack := 2, maxLocals := 2, code := jdk_67_method_14_code, exceptionTable := #[], attributes := #[] }
def k14m3 : Method := { name := "append", desc := "(C)Ljava/lang/StringBuilder;", sig := { parameters := [.char], returnType := some (.object "java/lang/StringBuilder") }, accessFlags := 1, code := some k14c3 }
def k14c4 : Code := { maxStack := 3, maxLocals := 1, code := jdk_67_method_42_code, exceptionTable := #[], attributes := #[] }
def k14m4 : Method := { name := "toString", desc := "()Ljava/lang/String;", sig := { parameters := [], returnType := some (.object "java/lang/String") }, accessFlags := 1, code := some k14c4 }
def k14c5 : Code := { maxStack := 1, maxLocals := 1, code := jdk_67_method_93_code, exceptionTable := #[], attributes := #[] }
def k14m5 : Method := { name := "length", desc := "()I", sig := { parameters := [], returnType := some .int }, accessFlags := 4161, code := some k14c5 }
/-- java/lang/StringBuilder -/
def k14 : Class := { plain "java/lang/StringBuilder" (some 13) with
  accessFlags := 49
  interfaces := #[12, 3, 5, 9]
  cf := some (fileOf pool14 24 #[] #[{ accessFlags := 1, nameIndex := 5, descriptorIndex := 145, attributes := #[] }, { accessFlags := 1, nameIndex := 5, descriptorIndex := 6, attributes := #[] }, { accessFlags := 1, nameIndex := 27, descriptorIndex := 298, attributes := #[] }, { accessFlags := 1, nameIndex := 27, descriptorIndex := 286, attributes := #[] }, { accessFlags := 1, nameIndex := 399, descriptorIndex := 400, attributes := #[] }, { accessFlags := 4161, nameIndex := 345, descriptorIndex := 156, attributes := #[] }] 49 2 #[349, 351, 353, 355] #[{ accessFlags := 24, nameIndex := 357, descriptorIndex := 358, attributes := #[] }])
  fields := #[{ name := "serialVersionUID", type := .long, accessFlags := 24, slot := 0, constantValue := 0 }]
  methods := #[k14m0, k14m1, k14m2, k14m3, k14m4, k14m5]
  instanceTypes := #[(.array .byte), .byte, .boolean, .int]
  staticTypes := #[.long]
  resolved := Array.replicate 422 none
  statics := none }

def pool15 : Array CpInfo := pool [(2, .class_ 4), (1, u "java/lang/Object"), (0, u "<init>"), (0, u "()V"), (17, .class_ 26), (1, u "jdk/internal/util/Preconditions"), (6, u "checkIndex"), (13, u "checkFromToIndex"), (7, .class_ 56), (0, u "jdk/internal/util/Preconditions$4"), (57, .class_ 115), (0, u "jdk/internal/util/Preconditions$1"), (7, u "SIOOBE_FORMATTER"), (0, u "Ljava/util/function/BiFunction;"), (0, .class_ 126), (0, u "jdk/internal/util/Preconditions$2"), (3, u "AIOOBE_FORMATTER"), (0, .class_ 132), (0, u "jdk/internal/util/Preconditions$3"), (3, u "IOOBE_FORMATTER"), (41, u "(IILjava/util/function/BiFunction;)I"), (4, u "(IIILjava/util/function/BiFunction;)I")] 10

def k15m0 : Method := { name := "<init>", desc := "()V", sig := { parameters := [], returnType := none }, accessFlags := 1, code := none }
def k15c1 : Code := { maxStack := 3, maxLocals := 3, code := jdk_41_method_11_code, exceptionTable := #[], attributes := #[] }
def k15m1 : Method := { name := "checkIndex", desc := "(IILjava/util/function/BiFunction;)I", sig := { parameters := [.int, .int, (.object "java/util/function/BiFunction")], returnType := some .int }, accessFlags := 9, code := some k15c1 }
def k15c2 : Code := { maxStack := 4, maxLocals := 4, code := jdk_41_method_12_code, exceptionTable := #[], attributes := #[] }
def k15m2 : Method := { name := "checkFromToIndex", desc := "(IIILjava/util/function/BiFunction;)I", sig := { parameters := [.int, .int, .int, (.object "java/util/function/BiFunction")], returnType := some .int }, accessFlags := 9, code := some k15c2 }
/-- jdk/internal/util/Preconditions -/
def k15 : Class := { plain "jdk/internal/util/Preconditions" (some 0) with
  accessFlags := 33
  interfaces := #[]
  cf := some (fileOf pool15 24 #[.nestMembers #[55, 131, 125, 114]] #[{ accessFlags := 1, nameIndex := 5, descriptorIndex := 6, attributes := #[] }, { accessFlags := 9, nameIndex := 33, descriptorIndex := 178, attributes := #[] }, { accessFlags := 9, nameIndex := 47, descriptorIndex := 183, attributes := #[] }] 33 2 #[] #[{ accessFlags := 25, nameIndex := 123, descriptorIndex := 124, attributes := #[] }, { accessFlags := 25, nameIndex := 130, descriptorIndex := 124, attributes := #[] }, { accessFlags := 25, nameIndex := 136, descriptorIndex := 124, attributes := #[] }])
  fields := #[{ name := "SIOOBE_FORMATTER", type := (.object "java/util/function/BiFunction"), accessFlags := 25, slot := 0, constantValue := 0 }, { name := "AIOOBE_FORMATTER", type := (.object "java/util/function/BiFunction"), accessFlags := 25, slot := 1, constantValue := 0 }, { name := "IOOBE_FORMATTER", type := (.object "java/util/function/BiFunction"), accessFlags := 25, slot := 2, constantValue := 0 }]
  methods := #[k15m0, k15m1, k15m2]
  instanceTypes := #[]
  staticTypes := #[(.object "java/util/function/BiFunction"), (.object "java/util/function/BiFunction"), (.object "java/util/function/BiFunction")]
  resolved := Array.replicate 194 none
  statics := some 2 }

def pool16 : Array CpInfo := pool [(2, .class_ 4), (1, u "java/lang/Object"), (0, u "<init>"), (0, u "()V"), (1, .class_ 10), (1, u "java/lang/System"), (0, u "allowSecurityManager"), (0, u "I"), (16, u "cons"), (0, u "Ljava/io/Console;"), (77, .class_ 110), (1, u "java/lang/System$CallersHolder"), (43, u "initialErrStream"), (0, u "Ljava/io/PrintStream;"), (19, u "security"), (0, u "Ljava/lang/SecurityManager;"), (31, .class_ 209), (0, u "java/lang/System$1"), (7, u "props"), (0, u "Ljava/util/Properties;"), (2, u "lineSeparator"), (0, u "Ljava/lang/String;"), (96, .class_ 321), (1, u "java/lang/System$LoggerFinder"), (5, .class_ 328), (0, u "java/lang/System$Logger"), (67, u "err"), (2, u "out"), (91, u "notSupportedJnuEncoding"), (15, u "in"), (17, u "initialIn"), (0, u "Ljava/io/InputStream;"), (35, u "bootLayer"), (0, u "Ljava/lang/ModuleLayer;"), (99, .class_ 664), (0, u "java/lang/System$2"), (9, u "NEVER"), (2, u "MAYBE"), (49, u "arraycopy"), (0, u "(Ljava/lang/Object;ILjava/lang/Object;II)V"), (72, .class_ 802), (0, u "java/lang/System$Logger$Level")] 31

def k16m0 : Method := { name := "<init>", desc := "()V", sig := { parameters := [], returnType := none }, accessFlags := 2, code := none }
def k16m1 : Method := { name := "arraycopy", desc := "(Ljava/lang/Object;ILjava/lang/Object;II)V", sig := { parameters := [(.object "java/lang/Object"), .int, (.object "java/lang/Object"), .int, .int], returnType := none }, accessFlags := 265, code := none }
/-- java/lang/System -/
def k16 : Class := { plain "java/lang/System" (some 0) with
  accessFlags := 49
  interfaces := #[]
  cf := some (fileOf pool16 8 #[.nestMembers #[319, 327, 801, 108, 663, 208]] #[{ accessFlags := 2, nameIndex := 5, descriptorIndex := 6, attributes := #[] }, { accessFlags := 265, nameIndex := 727, descriptorIndex := 728, attributes := #[] }] 49 2 #[] #[{ accessFlags := 25, nameIndex := 507, descriptorIndex := 526, attributes := #[] }, { accessFlags := 25, nameIndex := 399, descriptorIndex := 155, attributes := #[] }, { accessFlags := 25, nameIndex := 396, descriptorIndex := 155, attributes := #[] }, { accessFlags := 10, nameIndex := 525, descriptorIndex := 526, attributes := #[] }, { accessFlags := 26, nameIndex := 674, descriptorIndex := 12, attributes := #[] }, { accessFlags := 26, nameIndex := 677, descriptorIndex := 12, attributes := #[] }, { accessFlags := 10, nameIndex := 11, descriptorIndex := 12, attributes := #[] }, { accessFlags := 74, nameIndex := 175, descriptorIndex := 176, attributes := #[] }, { accessFlags := 10, nameIndex := 491, descriptorIndex := 222, attributes := #[] }, { accessFlags := 74, nameIndex := 29, descriptorIndex := 30, attributes := #[] }, { accessFlags := 74, nameIndex := 154, descriptorIndex := 155, attributes := #[] }, { accessFlags := 10, nameIndex := 217, descriptorIndex := 218, attributes := #[] }, { accessFlags := 10, nameIndex := 221, descriptorIndex := 222, attributes := #[] }, { accessFlags := 8, nameIndex := 562, descriptorIndex := 563, attributes := #[] }])
  fields := #[{ name := "in", type := (.object "java/io/InputStream"), accessFlags := 25, slot := 0, constantValue := 0 }, { name := "out", type := (.object "java/io/PrintStream"), accessFlags := 25, slot := 1, constantValue := 0 }, { name := "err", type := (.object "java/io/PrintStream"), accessFlags := 25, slot := 2, constantValue := 0 }, { name := "initialIn", type := (.object "java/io/InputStream"), accessFlags := 10, slot := 3, constantValue := 0 }, { name := "NEVER", type := .int, accessFlags := 26, slot := 4, constantValue := 0 }, { name := "MAYBE", type := .int, accessFlags := 26, slot := 5, constantValue := 0 }, { name := "allowSecurityManager", type := .int, accessFlags := 10, slot := 6, constantValue := 0 }, { name := "security", type := (.object "java/lang/SecurityManager"), accessFlags := 74, slot := 7, constantValue := 0 }, { name := "notSupportedJnuEncoding", type := (.object "java/lang/String"), accessFlags := 10, slot := 8, constantValue := 0 }, { name := "cons", type := (.object "java/io/Console"), accessFlags := 74, slot := 9, constantValue := 0 }, { name := "initialErrStream", type := (.object "java/io/PrintStream"), accessFlags := 74, slot := 10, constantValue := 0 }, { name := "props", type := (.object "java/util/Properties"), accessFlags := 10, slot := 11, constantValue := 0 }, { name := "lineSeparator", type := (.object "java/lang/String"), accessFlags := 10, slot := 12, constantValue := 0 }, { name := "bootLayer", type := (.object "java/lang/ModuleLayer"), accessFlags := 8, slot := 13, constantValue := 0 }]
  methods := #[k16m0, k16m1]
  instanceTypes := #[]
  staticTypes := #[(.object "java/io/InputStream"), (.object "java/io/PrintStream"), (.object "java/io/PrintStream"), (.object "java/io/InputStream"), .int, .int, .int, (.object "java/lang/SecurityManager"), (.object "java/lang/String"), (.object "java/io/Console"), (.object "java/io/PrintStream"), (.object "java/util/Properties"), (.object "java/lang/String"), (.object "java/lang/ModuleLayer")]
  resolved := Array.replicate 834 none
  statics := none }

def pool17 : Array CpInfo := pool [(2, .class_ 4), (1, u "java/lang/Object"), (0, u "<init>"), (0, u "()V"), (7, .class_ 16), (1, u "java/util/Arrays"), (57, .class_ 76), (1, u "java/util/Arrays$NaturalOrder"), (32, u "()Ljava/lang/Object;"), (3, .class_ 115), (1, u "java/util/Arrays$LegacyMergeSort"), (1, u "Z"), (10, .nameAndType 129 109), (0, u "clone"), (9, u "copyOfRange"), (10, .methodref 151 152), (0, .class_ 153), (0, .nameAndType 154 155), (0, u "java/lang/System"), (0, u "arraycopy"), (0, u "(Ljava/lang/Object;ILjava/lang/Object;II)V"), (148, .methodref 305 306), (0, .class_ 307), (0, .nameAndType 308 309), (0, u "java/lang/Math"), (0, u "min"), (0, u "(II)I"), (0, .methodref 311 128), (0, .class_ 312), (0, u "[B"), (26, .methodref 14 340), (0, .nameAndType 341 342), (0, u "copyOfRangeByte"), (0, u "([BII)[B"), (0, .methodref 14 344), (0, .nameAndType 345 346), (0, u "checkLength"), (0, u "(II)V"), (28, .class_ 376), (0, u "java/util/Arrays$ArrayList"), (68, u "$assertionsDisabled"), (269, u "MIN_ARRAY_SORT_GRAN"), (0, u "I"), (2, u "INSERTIONSORT_THRESHOLD"), (255, .class_ 976), (0, u "java/util/Arrays$ArrayItr")] 52

def k17m0 : Method := { name := "<init>", desc := "()V", sig := { parameters := [], returnType := none }, accessFlags := 2, code := none }
def k17c1 : Code := { maxStack := 4, maxLocals := 2, code := jdk_65_method_131_code, exceptionTable := #[], attributes := #[] }
def k17m1 : Method := { name := "checkLength", desc := "(II)V", sig := { parameters := [.int, .int], returnType := none }, accessFlags := 10, code := some k17c1 }
def k17c2 : Code := { maxStack := 3, maxLocals := 3, code := jdk_65_method_132_code, exceptionTable := #[], attributes := #[] }
def k17m2 : Method := { name := "copyOfRange", desc := "([BII)[B", sig := { parameters := [(.array .byte), .int, .int], returnType := some (.array .byte) }, accessFlags := 9, code := some k17c2 }
def k17c3 : Code := { maxStack := 6, maxLocals := 5, code := jdk_65_method_133_code, exceptionTable := #[], attributes := #[] }
def k17m3 : Method := { name := "copyOfRangeByte", desc := "([BII)[B", sig := { parameters := [(.array .byte), .int, .int], returnType := some (.array .byte) }, accessFlags := 10, code := some k17c3 }
/-- java/util/Arrays -/
def k17 : Class := { plain "java/util/Arrays" (some 0) with
  accessFlags := 49
  interfaces := #[]
  cf := some (fileOf pool17 14 #[.nestMembers #[975, 375, 113, 74]] #[{ accessFlags := 2, nameIndex := 5, descriptorIndex := 6, attributes := #[] }, { accessFlags := 10, nameIndex := 345, descriptorIndex := 346, attributes := #[] }, { accessFlags := 9, nameIndex := 139, descriptorIndex := 342, attributes := #[] }, { accessFlags := 10, nameIndex := 341, descriptorIndex := 342, attributes := #[] }] 49 2 #[] #[{ accessFlags := 26, nameIndex := 715, descriptorIndex := 716, attributes := #[] }, { accessFlags := 26, nameIndex := 719, descriptorIndex := 716, attributes := #[] }, { accessFlags := 4120, nameIndex := 445, descriptorIndex := 117, attributes := #[] }])
  fields := #[{ name := "MIN_ARRAY_SORT_GRAN", type := .int, accessFlags := 26, slot := 0, constantValue := 0 }, { name := "INSERTIONSORT_THRESHOLD", type := .int, accessFlags := 26, slot := 1, constantValue := 0 }, { name := "$assertionsDisabled", type := .boolean, accessFlags := 4120, slot := 2, constantValue := 0 }]
  methods := #[k17m0, k17m1, k17m2, k17m3]
  instanceTypes := #[]
  staticTypes := #[.int, .int, .boolean]
  resolved := Array.replicate 1029 none
  statics := none }

def pool18 : Array CpInfo := pool [(1, .class_ 2), (0, u "java/lang/Cloneable"), (0, .class_ 4), (0, u "java/lang/Object")] 2

/-- java/lang/Cloneable -/
def k18 : Class := { plain "java/lang/Cloneable" (some 0) with
  accessFlags := 1537
  interfaces := #[]
  cf := some (fileOf pool18 1 #[] #[] 1537 3 #[] #[])
  fields := #[]
  methods := #[]
  instanceTypes := #[]
  staticTypes := #[]
  resolved := Array.replicate 7 none
  statics := none }

def pool19 : Array CpInfo := pool [(1, .class_ 2), (0, u "java/lang/String"), (1, .class_ 6), (1, u "java/lang/Object"), (0, u "<init>"), (0, u "()V"), (0, .methodref 1 10), (0, .nameAndType 11 12), (0, u "checkIndex"), (0, u "(II)V"), (1, .class_ 16), (1, u "java/lang/StringLatin1"), (36, u "([BI)C"), (36, u "canEncode"), (14, u "(C)Z"), (15, u "$assertionsDisabled"), (0, u "Z"), (98, .class_ 223), (1, u "java/lang/StringLatin1$LinesSpliterator"), (28, u "charAt"), (137, .class_ 391), (0, u "java/lang/StringLatin1$CharsSpliterator")] 3

def k19m0 : Method := { name := "<init>", desc := "()V", sig := { parameters := [], returnType := none }, accessFlags := 0, code := none }
def k19c1 : Code := { maxStack := 2, maxLocals := 2, code := jdk_43_method_2_code, exceptionTable := #[], attributes := #[] }
def k19m1 : Method := { name := "charAt", desc := "([BI)C", sig := { parameters := [(.array .byte), .int], returnType := some .char }, accessFlags := 9, code := some k19c1 }
def k19c2 : Code := { maxStack := 2, maxLocals := 1, code := jdk_43_method_3_code, exceptionTable := #[], attributes := #[] }
def k19m2 : Method := { name := "canEncode", desc := "(C)Z", sig := { parameters := [.char], returnType := some .boolean }, accessFlags := 9, code := some k19c2 }
/-- java/lang/StringLatin1 -/
def k19 : Class := { plain "java/lang/StringLatin1" (some 0) with
  accessFlags := 48
  interfaces := #[]
  cf := some (fileOf pool19 14 #[.nestMembers #[390, 221]] #[{ accessFlags := 0, nameIndex := 7, descriptorIndex := 8, attributes := #[] }, { accessFlags := 9, nameIndex := 252, descriptorIndex := 53, attributes := #[] }, { accessFlags := 9, nameIndex := 90, descriptorIndex := 105, attributes := #[] }] 48 4 #[] #[{ accessFlags := 4120, nameIndex := 121, descriptorIndex := 122, attributes := #[] }])
  fields := #[{ name := "$assertionsDisabled", type := .boolean, accessFlags := 4120, slot := 0, constantValue := 0 }]
  methods := #[k19m0, k19m1, k19m2]
  instanceTypes := #[]
  staticTypes := #[.boolean]
  resolved := Array.replicate 395 none
  statics := none }

def pool20 : Array CpInfo := pool [(1, .class_ 2), (0, u "java/lang/Math"), (1, .class_ 6), (1, u "java/lang/Object"), (0, u "<init>"), (0, u "()V"), (89, .class_ 100), (1, u "java/lang/Math$RandomNumberGeneratorHolder"), (71, u "negativeZeroFloatBits"), (0, u "J"), (2, u "negativeZeroDoubleBits"), (24, u "min"), (43, u "$assertionsDisabled"), (0, u "Z"), (88, u "(II)I"), (2, u "twoToTheDoubleScaleDown"), (0, u "D"), (4, u "twoToTheDoubleScaleUp"), (9, u "E"), (3, u "PI"), (2, u "TAU"), (2, u "DEGREES_TO_RADIANS"), (0, u "RADIANS_TO_DEGREES")] 94

def k20m0 : Method := { name := "<init>", desc := "()V", sig := { parameters := [], returnType := none }, accessFlags := 2, code := none }
def k20c1 : Code := { maxStack := 2, maxLocals := 2, code := jdk_29_method_69_code, exceptionTable := #[], attributes := #[] }
def k20m1 : Method := { name := "min", desc := "(II)I", sig := { parameters := [.int, .int], returnType := some .int }, accessFlags := 9, code := some k20c1 }
/-- java/lang/Math -/
def k20 : Class := { plain "java/lang/Math" (some 0) with
  accessFlags := 49
  interfaces := #[]
  cf := some (fileOf pool20 1 #[.nestMembers #[98]] #[{ accessFlags := 2, nameIndex := 7, descriptorIndex := 8, attributes := #[] }, { accessFlags := 9, nameIndex := 201, descriptorIndex := 335, attributes := #[] }] 49 4 #[] #[{ accessFlags := 25, nameIndex := 354, descriptorIndex := 339, attributes := #[] }, { accessFlags := 25, nameIndex := 358, descriptorIndex := 339, attributes := #[] }, { accessFlags := 25, nameIndex := 361, descriptorIndex := 339, attributes := #[] }, { accessFlags := 26, nameIndex := 364, descriptorIndex := 339, attributes := #[] }, { accessFlags := 26, nameIndex := 365, descriptorIndex := 339, attributes := #[] }, { accessFlags := 26, nameIndex := 172, descriptorIndex := 173, attributes := #[] }, { accessFlags := 26, nameIndex := 176, descriptorIndex := 173, attributes := #[] }, { accessFlags := 8, nameIndex := 344, descriptorIndex := 339, attributes := #[] }, { accessFlags := 8, nameIndex := 338, descriptorIndex := 339, attributes := #[] }, { accessFlags := 4120, nameIndex := 245, descriptorIndex := 246, attributes := #[] }])
  fields := #[{ name := "E", type := .double, accessFlags := 25, slot := 0, constantValue := 0 }, { name := "PI", type := .double, accessFlags := 25, slot := 1, constantValue := 0 }, { name := "TAU", type := .double, accessFlags := 25, slot := 2, constantValue := 0 }, { name := "DEGREES_TO_RADIANS", type := .double, accessFlags := 26, slot := 3, constantValue := 0 }, { name := "RADIANS_TO_DEGREES", type := .double, accessFlags := 26, slot := 4, constantValue := 0 }, { name := "negativeZeroFloatBits", type := .long, accessFlags := 26, slot := 5, constantValue := 0 }, { name := "negativeZeroDoubleBits", type := .long, accessFlags := 26, slot := 6, constantValue := 0 }, { name := "twoToTheDoubleScaleUp", type := .double, accessFlags := 8, slot := 7, constantValue := 0 }, { name := "twoToTheDoubleScaleDown", type := .double, accessFlags := 8, slot := 8, constantValue := 0 }, { name := "$assertionsDisabled", type := .boolean, accessFlags := 4120, slot := 9, constantValue := 0 }]
  methods := #[k20m0, k20m1]
  instanceTypes := #[]
  staticTypes := #[.double, .double, .double, .double, .double, .long, .long, .double, .double, .boolean]
  resolved := Array.replicate 460 none
  statics := none }

def pool21 : Array CpInfo := pool [(9, u "<init>"), (6, .class_ 18), (1, u "java/lang/Object"), (0, u "()V"), (1, .class_ 23), (1, u "jdk/internal/util/ArraysSupport"), (0, u "LOG2_ARRAY_LONG_INDEX_SCALE"), (0, u "I"), (2, u "U"), (0, u "Ljdk/internal/misc/Unsafe;"), (8, u "BIG_ENDIAN"), (0, u "Z"), (8, u "LOG2_BYTE_BIT_SIZE"), (4, u "LOG2_ARRAY_INT_INDEX_SCALE"), (54, u "JLA"), (0, u "Ljdk/internal/access/JavaLangAccess;"), (11, u "LOG2_ARRAY_BOOLEAN_INDEX_SCALE"), (9, u "LOG2_ARRAY_BYTE_INDEX_SCALE"), (5, u "LOG2_ARRAY_CHAR_INDEX_SCALE"), (5, u "LOG2_ARRAY_SHORT_INDEX_SCALE"), (18, u "LOG2_ARRAY_FLOAT_INDEX_SCALE"), (24, u "LOG2_ARRAY_DOUBLE_INDEX_SCALE"), (89, u "T_BOOLEAN"), (2, u "T_CHAR"), (1, u "T_FLOAT"), (1, u "T_DOUBLE"), (1, u "T_BYTE"), (1, u "T_SHORT"), (1, u "T_INT"), (1, u "T_LONG"), (1, u "SOFT_MAX_ARRAY_LENGTH")] 83

def k21m0 : Method := { name := "<init>", desc := "()V", sig := { parameters := [], returnType := none }, accessFlags := 2, code := none }
/-- jdk/internal/util/ArraysSupport -/
def k21 : Class := { plain "jdk/internal/util/ArraysSupport" (some 0) with
  accessFlags := 33
  interfaces := #[]
  cf := some (fileOf pool21 21 #[] #[{ accessFlags := 2, nameIndex := 9, descriptorIndex := 19, attributes := #[] }] 33 16 #[] #[{ accessFlags := 24, nameIndex := 28, descriptorIndex := 29, attributes := #[] }, { accessFlags := 26, nameIndex := 38, descriptorIndex := 39, attributes := #[] }, { accessFlags := 25, nameIndex := 121, descriptorIndex := 25, attributes := #[] }, { accessFlags := 25, nameIndex := 131, descriptorIndex := 25, attributes := #[] }, { accessFlags := 25, nameIndex := 137, descriptorIndex := 25, attributes := #[] }, { accessFlags := 25, nameIndex := 143, descriptorIndex := 25, attributes := #[] }, { accessFlags := 25, nameIndex := 53, descriptorIndex := 25, attributes := #[] }, { accessFlags := 25, nameIndex := 24, descriptorIndex := 25, attributes := #[] }, { accessFlags := 25, nameIndex := 162, descriptorIndex := 25, attributes := #[] }, { accessFlags := 25, nameIndex := 187, descriptorIndex := 25, attributes := #[] }, { accessFlags := 26, nameIndex := 48, descriptorIndex := 25, attributes := #[] }, { accessFlags := 25, nameIndex := 277, descriptorIndex := 25, attributes := #[] }, { accessFlags := 25, nameIndex := 280, descriptorIndex := 25, attributes := #[] }, { accessFlags := 25, nameIndex := 282, descriptorIndex := 25, attributes := #[] }, { accessFlags := 25, nameIndex := 284, descriptorIndex := 25, attributes := #[] }, { accessFlags := 25, nameIndex := 286, descriptorIndex := 25, attributes := #[] }, { accessFlags := 25, nameIndex := 288, descriptorIndex := 25, attributes := #[] }, { accessFlags := 25, nameIndex := 290, descriptorIndex := 25, attributes := #[] }, { accessFlags := 25, nameIndex := 292, descriptorIndex := 25, attributes := #[] }, { accessFlags := 26, nameIndex := 108, descriptorIndex := 109, attributes := #[] }, { accessFlags := 25, nameIndex := 294, descriptorIndex := 25, attributes := #[] }])
  fields := #[{ name := "U", type := (.object "jdk/internal/misc/Unsafe"), accessFlags := 24, slot := 0, constantValue := 0 }, { name := "BIG_ENDIAN", type := .boolean, accessFlags := 26, slot := 1, constantValue := 0 }, { name := "LOG2_ARRAY_BOOLEAN_INDEX_SCALE", type := .int, accessFlags := 25, slot := 2, constantValue := 0 }, { name := "LOG2_ARRAY_BYTE_INDEX_SCALE", type := .int, accessFlags := 25, slot := 3, constantValue := 0 }, { name := "LOG2_ARRAY_CHAR_INDEX_SCALE", type := .int, accessFlags := 25, slot := 4, constantValue := 0 }, { name := "LOG2_ARRAY_SHORT_INDEX_SCALE", type := .int, accessFlags := 25, slot := 5, constantValue := 0 }, { name := "LOG2_ARRAY_INT_INDEX_SCALE", type := .int, accessFlags := 25, slot := 6, constantValue := 0 }, { name := "LOG2_ARRAY_LONG_INDEX_SCALE", type := .int, accessFlags := 25, slot := 7, constantValue := 0 }, { name := "LOG2_ARRAY_FLOAT_INDEX_SCALE", type := .int, accessFlags := 25, slot := 8, constantValue := 0 }, { name := "LOG2_ARRAY_DOUBLE_INDEX_SCALE", type := .int, accessFlags := 25, slot := 9, constantValue := 0 }, { name := "LOG2_BYTE_BIT_SIZE", type := .int, accessFlags := 26, slot := 10, constantValue := 0 }, { name := "T_BOOLEAN", type := .int, accessFlags := 25, slot := 11, constantValue := 0 }, { name := "T_CHAR", type := .int, accessFlags := 25, slot := 12, constantValue := 0 }, { name := "T_FLOAT", type := .int, accessFlags := 25, slot := 13, constantValue := 0 }, { name := "T_DOUBLE", type := .int, accessFlags := 25, slot := 14, constantValue := 0 }, { name := "T_BYTE", type := .int, accessFlags := 25, slot := 15, constantValue := 0 }, { name := "T_SHORT", type := .int, accessFlags := 25, slot := 16, constantValue := 0 }, { name := "T_INT", type := .int, accessFlags := 25, slot := 17, constantValue := 0 }, { name := "T_LONG", type := .int, accessFlags := 25, slot := 18, constantValue := 0 }, { name := "JLA", type := (.object "jdk/internal/access/JavaLangAccess"), accessFlags := 26, slot := 19, constantValue := 0 }, { name := "SOFT_MAX_ARRAY_LENGTH", type := .int, accessFlags := 25, slot := 20, constantValue := 0 }]
  methods := #[k21m0]
  instanceTypes := #[]
  staticTypes := #[(.object "jdk/internal/misc/Unsafe"), .boolean, .int, .int, .int, .int, .int, .int, .int, .int, .int, .int, .int, .int, .int, .int, .int, .int, .int, (.object "jdk/internal/access/JavaLangAccess"), .int]
  resolved := Array.replicate 378 none
  statics := none }

/-- the primitive byte -/
def k22 : Class := { plain "byte" none with kind := .primitive 'B', accessFlags := 0x411 }
/-- [B -/
def k23 : Class := { plain "[B" (some 0) with kind := .array 22 .byte, interfaces := #[18, 3], accessFlags := 1041 }

/-- the primitive int -/
def k24 : Class := { plain "int" none with kind := .primitive 'I', accessFlags := 0x411 }
/-- [I -/
def k25 : Class := { plain "[I" (some 0) with kind := .array 24 .int, interfaces := #[18, 3], accessFlags := 1041 }

/-- the primitive long -/
def k26 : Class := { plain "long" none with kind := .primitive 'J', accessFlags := 0x411 }
/-- [J -/
def k27 : Class := { plain "[J" (some 0) with kind := .array 26 .long, interfaces := #[18, 3], accessFlags := 1041 }

def heap : Heap := #[{ cls := 10, slots := #[.long 0, .int 1, .null, .int 0, .null, .int 0, .int 0], vm := .statics 10 },
  { cls := 11, slots := #[.int 0, .int 0, .null, .null, .ref 4, .ref 3, .int 0, .int 0, .long 0], vm := .statics 11 },
  { cls := 15, slots := #[.null, .null, .null], vm := .statics 15 },
  { cls := 23, slots := #[.int 48, .int 49, .int 50, .int 51, .int 52, .int 53, .int 54, .int 55, .int 56, .int 57, .int 48, .int 49, .int 50, .int 51, .int 52, .int 53, .int 54, .int 55, .int 56, .int 57, .int 48, .int 49, .int 50, .int 51, .int 52, .int 53, .int 54, .int 55, .int 56, .int 57, .int 48, .int 49, .int 50, .int 51, .int 52, .int 53, .int 54, .int 55, .int 56, .int 57, .int 48, .int 49, .int 50, .int 51, .int 52, .int 53, .int 54, .int 55, .int 56, .int 57, .int 48, .int 49, .int 50, .int 51, .int 52, .int 53, .int 54, .int 55, .int 56, .int 57, .int 48, .int 49, .int 50, .int 51, .int 52, .int 53, .int 54, .int 55, .int 56, .int 57, .int 48, .int 49, .int 50, .int 51, .int 52, .int 53, .int 54, .int 55, .int 56, .int 57, .int 48, .int 49, .int 50, .int 51, .int 52, .int 53, .int 54, .int 55, .int 56, .int 57, .int 48, .int 49, .int 50, .int 51, .int 52, .int 53, .int 54, .int 55, .int 56, .int 57], vm := .none },
  { cls := 23, slots := #[.int 48, .int 48, .int 48, .int 48, .int 48, .int 48, .int 48, .int 48, .int 48, .int 48, .int 49, .int 49, .int 49, .int 49, .int 49, .int 49, .int 49, .int 49, .int 49, .int 49, .int 50, .int 50, .int 50, .int 50, .int 50, .int 50, .int 50, .int 50, .int 50, .int 50, .int 51, .int 51, .int 51, .int 51, .int 51, .int 51, .int 51, .int 51, .int 51, .int 51, .int 52, .int 52, .int 52, .int 52, .int 52, .int 52, .int 52, .int 52, .int 52, .int 52, .int 53, .int 53, .int 53, .int 53, .int 53, .int 53, .int 53, .int 53, .int 53, .int 53, .int 54, .int 54, .int 54, .int 54, .int 54, .int 54, .int 54, .int 54, .int 54, .int 54, .int 55, .int 55, .int 55, .int 55, .int 55, .int 55, .int 55, .int 55, .int 55, .int 55, .int 56, .int 56, .int 56, .int 56, .int 56, .int 56, .int 56, .int 56, .int 56, .int 56, .int 57, .int 57, .int 57, .int 57, .int 57, .int 57, .int 57, .int 57, .int 57, .int 57], vm := .none }]
def classes : Array Class := #[k0, k1, k2, k3, k4, k5, k6, k7, k8, k9, k10, k11, k12, k13, k14, k15, k16, k17, k18, k19, k20, k21, k22, k23, k24, k25, k26, k27]
def interned : List (Array UInt16 × Addr) := []
def slotsUsed : Nat := 219
def theMethod : MethodId := ⟨1, 1⟩
def args0 : Array Value := #[.long 1234567, .int 0]
def aboutOver (below : List Frame) : State where
  vm := { classes := classes, interned := interned.toArray }
  heap := heap
  slotsUsed := slotsUsed
  threads := #[{ frames := .invoking theMethod args0 :: below }]
def below0 : List Frame := [.native { method := ⟨0, 0⟩, args := #[] }]
def about1 : State := aboutOver below0
def p0 : Program := .bare "" "" ""
def e0 : Env := launch0.env 0 0 0
theorem w_frames : about1.frames = Frame.invoking theMethod args0 :: below0 := rfl
set_option maxRecDepth 65536 in
theorem w_args : argsFit about1.vm theMethod args0 = true := by decide +kernel
set_option maxRecDepth 65536 in
theorem w_heap : heapFits about1 = true := by decide +kernel
set_option maxRecDepth 65536 in
theorem w_runnable : about1.curStatus? = some .runnable := by decide +kernel
set_option maxRecDepth 65536 in
theorem w_alone : about1.alone = true := by decide +kernel
set_option maxRecDepth 65536 in
theorem w_named : about1.methodNamed? x = some theMethod := by decide +kernel
set_option maxRecDepth 65536 in
theorem w_hears : about1.hears theMethod below0 = true := by decide +kernel
set_option maxRecDepth 65536 in
theorem w_ripe : about1.ripe theMethod args0 below0 = true := by decide +kernel
theorem w_running : about1.status = .running := rfl
set_option maxRecDepth 65536 in
theorem w_room : about1.hasRoom e0.platform room_1 = true :=
  launch0.hasRoom_least _ room_1 (by decide +kernel) (by decide +kernel) (by decide +kernel) (by decide +kernel) (by decide +kernel) (by decide +kernel)
theorem allAtoms_all (ts : List Jvm.Cond) (a : Array Jvm.Value) (st : Jvm.State) : (allAtoms ts).before a st = ts.all (fun c => c.before a st) := by
  induction ts with
  | nil => rfl
  | cons c t ih =>
    show (Jvm.Cond.and c (allAtoms t)).before a st = _
    rw [Jvm.Cond.before_and, ih, List.all_cons]
def words1 : List Jvm.Cond := Jvm.Cond.code x code maxLocals ret :: tables_1
/-- a 'code' word, met by the world's own term for the bytes: nothing is compared byte by byte -/
theorem code_word {y : MethodName} {bytes : ByteArray} {mx : Nat} {rt : Option FieldType} {a : Array Value} {s : State} {m : MethodId} {meth : Method} {c : Code} (h1 : s.methodNamed? y = some m) (h2 : s.vm.method? m = some meth) (h3 : meth.code = some c) (h4 : c.code = bytes)
    (h5 : (c.maxLocals == mx && c.exceptionTable.isEmpty && decide (c.maxStack ≤ mostOperands) && decide (meth.sig.returnType = rt) && !meth.locks && decide (parseMethodDescriptor y.desc = some meth.sig)) = true) : (Jvm.Cond.code y bytes mx rt).before a s = true := by
  simp only [Bool.and_eq_true, beq_iff_eq, Bool.not_eq_true', decide_eq_true_eq] at h5
  obtain ⟨⟨⟨⟨⟨g1, g2⟩, g3⟩, g4⟩, g5⟩, g6⟩ := h5
  simp [Cond.before, Cond.holds, Cond.value, h1, h2, h3, h4, g1, g2, g3, g4, g5, g6]
def isCode : Jvm.Cond → Bool
  | .code _ _ _ _ => true
  | _ => false
theorem all_split {L : List Jvm.Cond} {P : Jvm.Cond → Bool} (h1 : L.all (fun c => isCode c || P c) = true) (h2 : ∀ c ∈ L.filter isCode, P c = true) : L.all P = true := by
  refine List.all_eq_true.mpr fun c hc => ?_
  have h := List.all_eq_true.mp h1 c hc
  rcases Bool.eq_false_or_eq_true (isCode c) with hi | hi
  · exact h2 c (List.mem_filter.mpr ⟨hc, hi⟩)
  · simpa [hi] using h
set_option maxRecDepth 65536 in
theorem w_c0 : (Jvm.Cond.code x code maxLocals ret).before args0 about1 = true := code_word (m := ⟨1, 1⟩) (meth := k1m1) (c := k1c1) (by decide +kernel) rfl rfl rfl (by decide +kernel)
set_option maxRecDepth 65536 in
theorem w_c1 : (Jvm.Cond.code ({ cls := "com/example/yuletally/yuletally/engine/DigitsGroupedPinLaw", name := "digitCount", desc := "(J[J)I" } : Jvm.MethodName) method_3_code (4 : Nat) (Option.some Jvm.ClassFile.FieldType.int)).before args0 about1 = true := code_word (m := ⟨1, 2⟩) (meth := k1m2) (c := k1c2) (by decide +kernel) rfl rfl rfl (by decide +kernel)
set_option maxRecDepth 65536 in
theorem w_c2 : (Jvm.Cond.code ({ cls := "com/example/yuletally/yuletally/engine/Digits", name := "grouped", desc := "(J)Ljava/lang/String;" } : Jvm.MethodName) prog_23_method_5_code (6 : Nat) (Option.some (Jvm.ClassFile.FieldType.object "java/lang/String"))).before args0 about1 = true := code_word (m := ⟨2, 1⟩) (meth := k2m1) (c := k2c1) (by decide +kernel) rfl rfl rfl (by decide +kernel)
set_option maxRecDepth 65536 in
theorem w_c3 : (Jvm.Cond.code ({ cls := "java/lang/Long", name := "toString", desc := "(J)Ljava/lang/String;" } : Jvm.MethodName) jdk_35_method_12_code (4 : Nat) (Option.some (Jvm.ClassFile.FieldType.object "java/lang/String"))).before args0 about1 = true := code_word (m := ⟨8, 0⟩) (meth := k8m0) (c := k8c0) (by decide +kernel) rfl rfl rfl (by decide +kernel)
set_option maxRecDepth 65536 in
theorem w_c4 : (Jvm.Cond.code ({ cls := "java/lang/Long", name := "stringSize", desc := "(J)I" } : Jvm.MethodName) jdk_35_method_15_code (6 : Nat) (Option.some Jvm.ClassFile.FieldType.int)).before args0 about1 = true := code_word (m := ⟨8, 2⟩) (meth := k8m2) (c := k8c2) (by decide +kernel) rfl rfl rfl (by decide +kernel)
set_option maxRecDepth 65536 in
theorem w_c5 : (Jvm.Cond.code ({ cls := "java/lang/Long", name := "getChars", desc := "(JI[B)I" } : Jvm.MethodName) jdk_35_method_14_code (11 : Nat) (Option.some Jvm.ClassFile.FieldType.int)).before args0 about1 = true := code_word (m := ⟨8, 1⟩) (meth := k8m1) (c := k8c1) (by decide +kernel) rfl rfl rfl (by decide +kernel)
set_option maxRecDepth 65536 in
theorem w_c6 : (Jvm.Cond.code ({ cls := "java/lang/String", name := "<init>", desc := "([BB)V" } : Jvm.MethodName) jdk_42_method_151_code (3 : Nat) (Option.none : Option Jvm.ClassFile.FieldType)).before args0 about1 = true := code_word (m := ⟨10, 5⟩) (meth := k10m5) (c := k10c5) (by decide +kernel) rfl rfl rfl (by decide +kernel)
set_option maxRecDepth 65536 in
theorem w_c7 : (Jvm.Cond.code ({ cls := "java/lang/Object", name := "<init>", desc := "()V" } : Jvm.MethodName) object_method_1_code (1 : Nat) (Option.none : Option Jvm.ClassFile.FieldType)).before args0 about1 = true := code_word (m := ⟨0, 0⟩) (meth := k0m0) (c := k0c0) (by decide +kernel) rfl rfl rfl (by decide +kernel)
set_option maxRecDepth 65536 in
theorem w_c8 : (Jvm.Cond.code ({ cls := "java/lang/String", name := "length", desc := "()I" } : Jvm.MethodName) jdk_42_method_54_code (1 : Nat) (Option.some Jvm.ClassFile.FieldType.int)).before args0 about1 = true := code_word (m := ⟨10, 2⟩) (meth := k10m2) (c := k10c2) (by decide +kernel) rfl rfl rfl (by decide +kernel)
set_option maxRecDepth 65536 in
theorem w_c9 : (Jvm.Cond.code ({ cls := "java/lang/String", name := "coder", desc := "()B" } : Jvm.MethodName) jdk_42_method_152_code (1 : Nat) (Option.some Jvm.ClassFile.FieldType.byte)).before args0 about1 = true := code_word (m := ⟨10, 6⟩) (meth := k10m6) (c := k10c6) (by decide +kernel) rfl rfl rfl (by decide +kernel)
set_option maxRecDepth 65536 in
theorem w_c10 : (Jvm.Cond.code ({ cls := "java/lang/StringBuilder", name := "<init>", desc := "(I)V" } : Jvm.MethodName) jdk_67_method_2_code (2 : Nat) (Option.none : Option Jvm.ClassFile.FieldType)).before args0 about1 = true := code_word (m := ⟨14, 1⟩) (meth := k14m1) (c := k14c1) (by decide +kernel) rfl rfl rfl (by decide +kernel)
set_option maxRecDepth 65536 in
theorem w_c11 : (Jvm.Cond.code ({ cls := "java/lang/AbstractStringBuilder", name := "<init>", desc := "(I)V" } : Jvm.MethodName) jdk_68_method_2_code (2 : Nat) (Option.none : Option Jvm.ClassFile.FieldType)).before args0 about1 = true := code_word (m := ⟨13, 1⟩) (meth := k13m1) (c := k13c1) (by decide +kernel) rfl rfl rfl (by decide +kernel)
set_option maxRecDepth 65536 in
theorem w_c12 : (Jvm.Cond.code ({ cls := "java/lang/StringBuilder", name := "append", desc := "(Ljava/lang/CharSequence;II)Ljava/lang/StringBuilder;" } : Jvm.MethodName) jdk_67_method_10_code (4 : Nat) (Option.some (Jvm.ClassFile.FieldType.object "java/lang/StringBuilder"))).before args0 about1 = true := code_word (m := ⟨14, 2⟩) (meth := k14m2) (c := k14c2) (by decide +kernel) rfl rfl rfl (by decide +kernel)
set_option maxRecDepth 65536 in
theorem w_c13 : (Jvm.Cond.code ({ cls := "java/lang/AbstractStringBuilder", name := "append", desc := "(Ljava/lang/CharSequence;II)Ljava/lang/AbstractStringBuilder;" } : Jvm.MethodName) jdk_68_method_27_code (5 : Nat) (Option.some (Jvm.ClassFile.FieldType.object "java/lang/AbstractStringBuilder"))).before args0 about1 = true := code_word (m := ⟨13, 4⟩) (meth := k13m4) (c := k13c4) (by decide +kernel) rfl rfl rfl (by decide +kernel)
set_option maxRecDepth 65536 in
theorem w_c14 : (Jvm.Cond.code ({ cls := "jdk/internal/util/Preconditions", name := "checkFromToIndex", desc := "(IIILjava/util/function/BiFunction;)I" } : Jvm.MethodName) jdk_41_method_12_code (4 : Nat) (Option.some Jvm.ClassFile.FieldType.int)).before args0 about1 = true := code_word (m := ⟨15, 2⟩) (meth := k15m2) (c := k15c2) (by decide +kernel) rfl rfl rfl (by decide +kernel)
set_option maxRecDepth 65536 in
theorem w_c15 : (Jvm.Cond.code ({ cls := "java/lang/AbstractStringBuilder", name := "ensureCapacityInternal", desc := "(I)V" } : Jvm.MethodName) jdk_68_method_9_code (3 : Nat) (Option.none : Option Jvm.ClassFile.FieldType)).before args0 about1 = true := code_word (m := ⟨13, 3⟩) (meth := k13m3) (c := k13c3) (by decide +kernel) rfl rfl rfl (by decide +kernel)
set_option maxRecDepth 65536 in
theorem w_c16 : (Jvm.Cond.code ({ cls := "java/lang/AbstractStringBuilder", name := "appendChars", desc := "(Ljava/lang/String;II)V" } : Jvm.MethodName) jdk_68_method_75_code (8 : Nat) (Option.none : Option Jvm.ClassFile.FieldType)).before args0 about1 = true := code_word (m := ⟨13, 8⟩) (meth := k13m8) (c := k13c8) (by decide +kernel) rfl rfl rfl (by decide +kernel)
set_option maxRecDepth 65536 in
theorem w_c17 : (Jvm.Cond.code ({ cls := "java/lang/AbstractStringBuilder", name := "isLatin1", desc := "()Z" } : Jvm.MethodName) jdk_68_method_68_code (1 : Nat) (Option.some Jvm.ClassFile.FieldType.boolean)).before args0 about1 = true := code_word (m := ⟨13, 7⟩) (meth := k13m7) (c := k13c7) (by decide +kernel) rfl rfl rfl (by decide +kernel)
set_option maxRecDepth 65536 in
theorem w_c18 : (Jvm.Cond.code ({ cls := "java/lang/String", name := "isLatin1", desc := "()Z" } : Jvm.MethodName) jdk_42_method_154_code (1 : Nat) (Option.some Jvm.ClassFile.FieldType.boolean)).before args0 about1 = true := code_word (m := ⟨10, 8⟩) (meth := k10m8) (c := k10c8) (by decide +kernel) rfl rfl rfl (by decide +kernel)
set_option maxRecDepth 65536 in
theorem w_c19 : (Jvm.Cond.code ({ cls := "java/lang/String", name := "value", desc := "()[B" } : Jvm.MethodName) jdk_42_method_153_code (1 : Nat) (Option.some (Jvm.ClassFile.FieldType.array Jvm.ClassFile.FieldType.byte))).before args0 about1 = true := code_word (m := ⟨10, 7⟩) (meth := k10m7) (c := k10c7) (by decide +kernel) rfl rfl rfl (by decide +kernel)
set_option maxRecDepth 65536 in
theorem w_c20 : (Jvm.Cond.code ({ cls := "java/lang/StringBuilder", name := "toString", desc := "()Ljava/lang/String;" } : Jvm.MethodName) jdk_67_method_42_code (1 : Nat) (Option.some (Jvm.ClassFile.FieldType.object "java/lang/String"))).before args0 about1 = true := code_word (m := ⟨14, 4⟩) (meth := k14m4) (c := k14c4) (by decide +kernel) rfl rfl rfl (by decide +kernel)
set_option maxRecDepth 65536 in
theorem w_c21 : (Jvm.Cond.code ({ cls := "java/lang/String", name := "<init>", desc := "(Ljava/lang/StringBuilder;)V" } : Jvm.MethodName) jdk_42_method_53_code (2 : Nat) (Option.none : Option Jvm.ClassFile.FieldType)).before args0 about1 = true := code_word (m := ⟨10, 1⟩) (meth := k10m1) (c := k10c1) (by decide +kernel) rfl rfl rfl (by decide +kernel)
set_option maxRecDepth 65536 in
theorem w_c22 : (Jvm.Cond.code ({ cls := "java/lang/String", name := "<init>", desc := "(Ljava/lang/AbstractStringBuilder;Ljava/lang/Void;)V" } : Jvm.MethodName) jdk_42_method_150_code (5 : Nat) (Option.none : Option Jvm.ClassFile.FieldType)).before args0 about1 = true := code_word (m := ⟨10, 4⟩) (meth := k10m4) (c := k10c4) (by decide +kernel) rfl rfl rfl (by decide +kernel)
set_option maxRecDepth 65536 in
theorem w_c23 : (Jvm.Cond.code ({ cls := "java/lang/AbstractStringBuilder", name := "getValue", desc := "()[B" } : Jvm.MethodName) jdk_68_method_64_code (1 : Nat) (Option.some (Jvm.ClassFile.FieldType.array Jvm.ClassFile.FieldType.byte))).before args0 about1 = true := code_word (m := ⟨13, 6⟩) (meth := k13m6) (c := k13c6) (by decide +kernel) rfl rfl rfl (by decide +kernel)
set_option maxRecDepth 65536 in
theorem w_c24 : (Jvm.Cond.code ({ cls := "java/lang/StringBuilder", name := "length", desc := "()I" } : Jvm.MethodName) jdk_67_method_93_code (1 : Nat) (Option.some Jvm.ClassFile.FieldType.int)).before args0 about1 = true := code_word (m := ⟨14, 5⟩) (meth := k14m5) (c := k14c5) (by decide +kernel) rfl rfl rfl (by decide +kernel)
set_option maxRecDepth 65536 in
theorem w_c25 : (Jvm.Cond.code ({ cls := "java/lang/AbstractStringBuilder", name := "length", desc := "()I" } : Jvm.MethodName) jdk_68_method_6_code (1 : Nat) (Option.some Jvm.ClassFile.FieldType.int)).before args0 about1 = true := code_word (m := ⟨13, 2⟩) (meth := k13m2) (c := k13c2) (by decide +kernel) rfl rfl rfl (by decide +kernel)
set_option maxRecDepth 65536 in
theorem w_c26 : (Jvm.Cond.code ({ cls := "java/util/Arrays", name := "copyOfRange", desc := "([BII)[B" } : Jvm.MethodName) jdk_65_method_132_code (3 : Nat) (Option.some (Jvm.ClassFile.FieldType.array Jvm.ClassFile.FieldType.byte))).before args0 about1 = true := code_word (m := ⟨17, 2⟩) (meth := k17m2) (c := k17c2) (by decide +kernel) rfl rfl rfl (by decide +kernel)
set_option maxRecDepth 65536 in
theorem w_c27 : (Jvm.Cond.code ({ cls := "com/example/yuletally/yuletally/engine/DigitsGroupedPinLaw", name := "at", desc := "(Ljava/lang/String;J[JII)Z" } : Jvm.MethodName) method_4_code (9 : Nat) (Option.some Jvm.ClassFile.FieldType.boolean)).before args0 about1 = true := code_word (m := ⟨1, 3⟩) (meth := k1m3) (c := k1c3) (by decide +kernel) rfl rfl rfl (by decide +kernel)
set_option maxRecDepth 65536 in
theorem w_c28 : (Jvm.Cond.code ({ cls := "java/lang/String", name := "charAt", desc := "(I)C" } : Jvm.MethodName) jdk_42_method_56_code (2 : Nat) (Option.some Jvm.ClassFile.FieldType.char)).before args0 about1 = true := code_word (m := ⟨10, 3⟩) (meth := k10m3) (c := k10c3) (by decide +kernel) rfl rfl rfl (by decide +kernel)
set_option maxRecDepth 65536 in
theorem w_c29 : (Jvm.Cond.code ({ cls := "java/lang/StringLatin1", name := "charAt", desc := "([BI)C" } : Jvm.MethodName) jdk_43_method_2_code (2 : Nat) (Option.some Jvm.ClassFile.FieldType.char)).before args0 about1 = true := code_word (m := ⟨19, 1⟩) (meth := k19m1) (c := k19c1) (by decide +kernel) rfl rfl rfl (by decide +kernel)
set_option maxRecDepth 65536 in
theorem w_c30 : (Jvm.Cond.code ({ cls := "java/lang/String", name := "checkIndex", desc := "(II)V" } : Jvm.MethodName) jdk_42_method_155_code (2 : Nat) (Option.none : Option Jvm.ClassFile.FieldType)).before args0 about1 = true := code_word (m := ⟨10, 9⟩) (meth := k10m9) (c := k10c9) (by decide +kernel) rfl rfl rfl (by decide +kernel)
set_option maxRecDepth 65536 in
theorem w_c31 : (Jvm.Cond.code ({ cls := "jdk/internal/util/Preconditions", name := "checkIndex", desc := "(IILjava/util/function/BiFunction;)I" } : Jvm.MethodName) jdk_41_method_11_code (3 : Nat) (Option.some Jvm.ClassFile.FieldType.int)).before args0 about1 = true := code_word (m := ⟨15, 1⟩) (meth := k15m1) (c := k15c1) (by decide +kernel) rfl rfl rfl (by decide +kernel)
set_option maxRecDepth 65536 in
theorem w_c32 : (Jvm.Cond.code ({ cls := "java/lang/StringBuilder", name := "append", desc := "(C)Ljava/lang/StringBuilder;" } : Jvm.MethodName) jdk_67_method_14_code (2 : Nat) (Option.some (Jvm.ClassFile.FieldType.object "java/lang/StringBuilder"))).before args0 about1 = true := code_word (m := ⟨14, 3⟩) (meth := k14m3) (c := k14c3) (by decide +kernel) rfl rfl rfl (by decide +kernel)
set_option maxRecDepth 65536 in
theorem w_c33 : (Jvm.Cond.code ({ cls := "java/lang/AbstractStringBuilder", name := "append", desc := "(C)Ljava/lang/AbstractStringBuilder;" } : Jvm.MethodName) jdk_68_method_31_code (2 : Nat) (Option.some (Jvm.ClassFile.FieldType.object "java/lang/AbstractStringBuilder"))).before args0 about1 = true := code_word (m := ⟨13, 5⟩) (meth := k13m5) (c := k13c5) (by decide +kernel) rfl rfl rfl (by decide +kernel)
set_option maxRecDepth 65536 in
theorem w_c34 : (Jvm.Cond.code ({ cls := "java/lang/StringLatin1", name := "canEncode", desc := "(C)Z" } : Jvm.MethodName) jdk_43_method_3_code (1 : Nat) (Option.some Jvm.ClassFile.FieldType.boolean)).before args0 about1 = true := code_word (m := ⟨19, 2⟩) (meth := k19m2) (c := k19c2) (by decide +kernel) rfl rfl rfl (by decide +kernel)
set_option maxRecDepth 65536 in
theorem w_c35 : (Jvm.Cond.code ({ cls := "java/util/Arrays", name := "copyOfRangeByte", desc := "([BII)[B" } : Jvm.MethodName) jdk_65_method_133_code (5 : Nat) (Option.some (Jvm.ClassFile.FieldType.array Jvm.ClassFile.FieldType.byte))).before args0 about1 = true := code_word (m := ⟨17, 3⟩) (meth := k17m3) (c := k17c3) (by decide +kernel) rfl rfl rfl (by decide +kernel)
set_option maxRecDepth 65536 in
theorem w_c36 : (Jvm.Cond.code ({ cls := "java/util/Arrays", name := "checkLength", desc := "(II)V" } : Jvm.MethodName) jdk_65_method_131_code (2 : Nat) (Option.none : Option Jvm.ClassFile.FieldType)).before args0 about1 = true := code_word (m := ⟨17, 1⟩) (meth := k17m1) (c := k17c1) (by decide +kernel) rfl rfl rfl (by decide +kernel)
set_option maxRecDepth 65536 in
theorem w_c37 : (Jvm.Cond.code ({ cls := "java/lang/Math", name := "min", desc := "(II)I" } : Jvm.MethodName) jdk_29_method_69_code (2 : Nat) (Option.some Jvm.ClassFile.FieldType.int)).before args0 about1 = true := code_word (m := ⟨20, 1⟩) (meth := k20m1) (c := k20c1) (by decide +kernel) rfl rfl rfl (by decide +kernel)
def codes1 : List Jvm.Cond := [Jvm.Cond.code x code maxLocals ret, Jvm.Cond.code ({ cls := "com/example/yuletally/yuletally/engine/DigitsGroupedPinLaw", name := "digitCount", desc := "(J[J)I" } : Jvm.MethodName) method_3_code (4 : Nat) (Option.some Jvm.ClassFile.FieldType.int), Jvm.Cond.code ({ cls := "com/example/yuletally/yuletally/engine/Digits", name := "grouped", desc := "(J)Ljava/lang/String;" } : Jvm.MethodName) prog_23_method_5_code (6 : Nat) (Option.some (Jvm.ClassFile.FieldType.object "java/lang/String")), Jvm.Cond.code ({ cls := "java/lang/Long", name := "toString", desc := "(J)Ljava/lang/String;" } : Jvm.MethodName) jdk_35_method_12_code (4 : Nat) (Option.some (Jvm.ClassFile.FieldType.object "java/lang/String")), Jvm.Cond.code ({ cls := "java/lang/Long", name := "stringSize", desc := "(J)I" } : Jvm.MethodName) jdk_35_method_15_code (6 : Nat) (Option.some Jvm.ClassFile.FieldType.int), Jvm.Cond.code ({ cls := "java/lang/Long", name := "getChars", desc := "(JI[B)I" } : Jvm.MethodName) jdk_35_method_14_code (11 : Nat) (Option.some Jvm.ClassFile.FieldType.int), Jvm.Cond.code ({ cls := "java/lang/String", name := "<init>", desc := "([BB)V" } : Jvm.MethodName) jdk_42_method_151_code (3 : Nat) (Option.none : Option Jvm.ClassFile.FieldType), Jvm.Cond.code ({ cls := "java/lang/Object", name := "<init>", desc := "()V" } : Jvm.MethodName) object_method_1_code (1 : Nat) (Option.none : Option Jvm.ClassFile.FieldType), Jvm.Cond.code ({ cls := "java/lang/String", name := "length", desc := "()I" } : Jvm.MethodName) jdk_42_method_54_code (1 : Nat) (Option.some Jvm.ClassFile.FieldType.int), Jvm.Cond.code ({ cls := "java/lang/String", name := "coder", desc := "()B" } : Jvm.MethodName) jdk_42_method_152_code (1 : Nat) (Option.some Jvm.ClassFile.FieldType.byte), Jvm.Cond.code ({ cls := "java/lang/StringBuilder", name := "<init>", desc := "(I)V" } : Jvm.MethodName) jdk_67_method_2_code (2 : Nat) (Option.none : Option Jvm.ClassFile.FieldType), Jvm.Cond.code ({ cls := "java/lang/AbstractStringBuilder", name := "<init>", desc := "(I)V" } : Jvm.MethodName) jdk_68_method_2_code (2 : Nat) (Option.none : Option Jvm.ClassFile.FieldType), Jvm.Cond.code ({ cls := "java/lang/StringBuilder", name := "append", desc := "(Ljava/lang/CharSequence;II)Ljava/lang/StringBuilder;" } : Jvm.MethodName) jdk_67_method_10_code (4 : Nat) (Option.some (Jvm.ClassFile.FieldType.object "java/lang/StringBuilder")), Jvm.Cond.code ({ cls := "java/lang/AbstractStringBuilder", name := "append", desc := "(Ljava/lang/CharSequence;II)Ljava/lang/AbstractStringBuilder;" } : Jvm.MethodName) jdk_68_method_27_code (5 : Nat) (Option.some (Jvm.ClassFile.FieldType.object "java/lang/AbstractStringBuilder")), Jvm.Cond.code ({ cls := "jdk/internal/util/Preconditions", name := "checkFromToIndex", desc := "(IIILjava/util/function/BiFunction;)I" } : Jvm.MethodName) jdk_41_method_12_code (4 : Nat) (Option.some Jvm.ClassFile.FieldType.int), Jvm.Cond.code ({ cls := "java/lang/AbstractStringBuilder", name := "ensureCapacityInternal", desc := "(I)V" } : Jvm.MethodName) jdk_68_method_9_code (3 : Nat) (Option.none : Option Jvm.ClassFile.FieldType), Jvm.Cond.code ({ cls := "java/lang/AbstractStringBuilder", name := "appendChars", desc := "(Ljava/lang/String;II)V" } : Jvm.MethodName) jdk_68_method_75_code (8 : Nat) (Option.none : Option Jvm.ClassFile.FieldType), Jvm.Cond.code ({ cls := "java/lang/AbstractStringBuilder", name := "isLatin1", desc := "()Z" } : Jvm.MethodName) jdk_68_method_68_code (1 : Nat) (Option.some Jvm.ClassFile.FieldType.boolean), Jvm.Cond.code ({ cls := "java/lang/String", name := "isLatin1", desc := "()Z" } : Jvm.MethodName) jdk_42_method_154_code (1 : Nat) (Option.some Jvm.ClassFile.FieldType.boolean), Jvm.Cond.code ({ cls := "java/lang/String", name := "value", desc := "()[B" } : Jvm.MethodName) jdk_42_method_153_code (1 : Nat) (Option.some (Jvm.ClassFile.FieldType.array Jvm.ClassFile.FieldType.byte)), Jvm.Cond.code ({ cls := "java/lang/StringBuilder", name := "toString", desc := "()Ljava/lang/String;" } : Jvm.MethodName) jdk_67_method_42_code (1 : Nat) (Option.some (Jvm.ClassFile.FieldType.object "java/lang/String")), Jvm.Cond.code ({ cls := "java/lang/String", name := "<init>", desc := "(Ljava/lang/StringBuilder;)V" } : Jvm.MethodName) jdk_42_method_53_code (2 : Nat) (Option.none : Option Jvm.ClassFile.FieldType), Jvm.Cond.code ({ cls := "java/lang/String", name := "<init>", desc := "(Ljava/lang/AbstractStringBuilder;Ljava/lang/Void;)V" } : Jvm.MethodName) jdk_42_method_150_code (5 : Nat) (Option.none : Option Jvm.ClassFile.FieldType), Jvm.Cond.code ({ cls := "java/lang/AbstractStringBuilder", name := "getValue", desc := "()[B" } : Jvm.MethodName) jdk_68_method_64_code (1 : Nat) (Option.some (Jvm.ClassFile.FieldType.array Jvm.ClassFile.FieldType.byte)), Jvm.Cond.code ({ cls := "java/lang/StringBuilder", name := "length", desc := "()I" } : Jvm.MethodName) jdk_67_method_93_code (1 : Nat) (Option.some Jvm.ClassFile.FieldType.int), Jvm.Cond.code ({ cls := "java/lang/AbstractStringBuilder", name := "length", desc := "()I" } : Jvm.MethodName) jdk_68_method_6_code (1 : Nat) (Option.some Jvm.ClassFile.FieldType.int), Jvm.Cond.code ({ cls := "java/util/Arrays", name := "copyOfRange", desc := "([BII)[B" } : Jvm.MethodName) jdk_65_method_132_code (3 : Nat) (Option.some (Jvm.ClassFile.FieldType.array Jvm.ClassFile.FieldType.byte)), Jvm.Cond.code ({ cls := "com/example/yuletally/yuletally/engine/DigitsGroupedPinLaw", name := "at", desc := "(Ljava/lang/String;J[JII)Z" } : Jvm.MethodName) method_4_code (9 : Nat) (Option.some Jvm.ClassFile.FieldType.boolean), Jvm.Cond.code ({ cls := "java/lang/String", name := "charAt", desc := "(I)C" } : Jvm.MethodName) jdk_42_method_56_code (2 : Nat) (Option.some Jvm.ClassFile.FieldType.char), Jvm.Cond.code ({ cls := "java/lang/StringLatin1", name := "charAt", desc := "([BI)C" } : Jvm.MethodName) jdk_43_method_2_code (2 : Nat) (Option.some Jvm.ClassFile.FieldType.char), Jvm.Cond.code ({ cls := "java/lang/String", name := "checkIndex", desc := "(II)V" } : Jvm.MethodName) jdk_42_method_155_code (2 : Nat) (Option.none : Option Jvm.ClassFile.FieldType), Jvm.Cond.code ({ cls := "jdk/internal/util/Preconditions", name := "checkIndex", desc := "(IILjava/util/function/BiFunction;)I" } : Jvm.MethodName) jdk_41_method_11_code (3 : Nat) (Option.some Jvm.ClassFile.FieldType.int), Jvm.Cond.code ({ cls := "java/lang/StringBuilder", name := "append", desc := "(C)Ljava/lang/StringBuilder;" } : Jvm.MethodName) jdk_67_method_14_code (2 : Nat) (Option.some (Jvm.ClassFile.FieldType.object "java/lang/StringBuilder")), Jvm.Cond.code ({ cls := "java/lang/AbstractStringBuilder", name := "append", desc := "(C)Ljava/lang/AbstractStringBuilder;" } : Jvm.MethodName) jdk_68_method_31_code (2 : Nat) (Option.some (Jvm.ClassFile.FieldType.object "java/lang/AbstractStringBuilder")), Jvm.Cond.code ({ cls := "java/lang/StringLatin1", name := "canEncode", desc := "(C)Z" } : Jvm.MethodName) jdk_43_method_3_code (1 : Nat) (Option.some Jvm.ClassFile.FieldType.boolean), Jvm.Cond.code ({ cls := "java/util/Arrays", name := "copyOfRangeByte", desc := "([BII)[B" } : Jvm.MethodName) jdk_65_method_133_code (5 : Nat) (Option.some (Jvm.ClassFile.FieldType.array Jvm.ClassFile.FieldType.byte)), Jvm.Cond.code ({ cls := "java/util/Arrays", name := "checkLength", desc := "(II)V" } : Jvm.MethodName) jdk_65_method_131_code (2 : Nat) (Option.none : Option Jvm.ClassFile.FieldType), Jvm.Cond.code ({ cls := "java/lang/Math", name := "min", desc := "(II)I" } : Jvm.MethodName) jdk_29_method_69_code (2 : Nat) (Option.some Jvm.ClassFile.FieldType.int)]
set_option maxRecDepth 65536 in
theorem codes_eq : words1.filter isCode = codes1 := rfl
theorem w_codes : ∀ c ∈ words1.filter isCode, c.before args0 about1 = true := by
  rw [codes_eq]
  intro c hc
  simp only [codes1, List.mem_cons, List.not_mem_nil, or_false] at hc
  rcases hc with rfl | rfl | rfl | rfl | rfl | rfl | rfl | rfl | rfl | rfl | rfl | rfl | rfl | rfl | rfl | rfl | rfl | rfl | rfl | rfl | rfl | rfl | rfl | rfl | rfl | rfl | rfl | rfl | rfl | rfl | rfl | rfl | rfl | rfl | rfl | rfl | rfl | rfl
  · exact w_c0
  · exact w_c1
  · exact w_c2
  · exact w_c3
  · exact w_c4
  · exact w_c5
  · exact w_c6
  · exact w_c7
  · exact w_c8
  · exact w_c9
  · exact w_c10
  · exact w_c11
  · exact w_c12
  · exact w_c13
  · exact w_c14
  · exact w_c15
  · exact w_c16
  · exact w_c17
  · exact w_c18
  · exact w_c19
  · exact w_c20
  · exact w_c21
  · exact w_c22
  · exact w_c23
  · exact w_c24
  · exact w_c25
  · exact w_c26
  · exact w_c27
  · exact w_c28
  · exact w_c29
  · exact w_c30
  · exact w_c31
  · exact w_c32
  · exact w_c33
  · exact w_c34
  · exact w_c35
  · exact w_c36
  · exact w_c37
set_option maxRecDepth 65536 in
theorem w_t1 : (words1.take 24).all (fun c => isCode c || c.before args0 about1) = true := by decide +kernel
set_option maxRecDepth 65536 in
theorem w_t2 : ((words1.drop 24).take 24).all (fun c => isCode c || c.before args0 about1) = true := by decide +kernel
set_option maxRecDepth 65536 in
theorem w_t3 : (((words1.drop 24).drop 24).take 24).all (fun c => isCode c || c.before args0 about1) = true := by decide +kernel
set_option maxRecDepth 65536 in
theorem w_t4 : ((((words1.drop 24).drop 24).drop 24).take 24).all (fun c => isCode c || c.before args0 about1) = true := by decide +kernel
set_option maxRecDepth 65536 in
theorem w_t5 : (((((words1.drop 24).drop 24).drop 24).drop 24).take 24).all (fun c => isCode c || c.before args0 about1) = true := by decide +kernel
set_option maxRecDepth 65536 in
theorem w_t6 : ((((((words1.drop 24).drop 24).drop 24).drop 24).drop 24).take 24).all (fun c => isCode c || c.before args0 about1) = true := by decide +kernel
set_option maxRecDepth 65536 in
theorem w_t7 : (((((((words1.drop 24).drop 24).drop 24).drop 24).drop 24).drop 24).take 24).all (fun c => isCode c || c.before args0 about1) = true := by decide +kernel
set_option maxRecDepth 65536 in
theorem w_t8 : ((((((((words1.drop 24).drop 24).drop 24).drop 24).drop 24).drop 24).drop 24).take 24).all (fun c => isCode c || c.before args0 about1) = true := by decide +kernel
set_option maxRecDepth 65536 in
theorem w_t9 : (((((((((words1.drop 24).drop 24).drop 24).drop 24).drop 24).drop 24).drop 24).drop 24).take 24).all (fun c => isCode c || c.before args0 about1) = true := by decide +kernel
set_option maxRecDepth 65536 in
theorem w_t10 : (((((((((words1.drop 24).drop 24).drop 24).drop 24).drop 24).drop 24).drop 24).drop 24).drop 24).all (fun c => isCode c || c.before args0 about1) = true := by decide +kernel
theorem w_tables : (allAtoms (Jvm.Cond.code x code maxLocals ret :: tables_1)).before args0 about1 = true := by
  rw [allAtoms_all]
  show words1.all (fun c => c.before args0 about1) = true
  refine all_split ?_ w_codes
  rw [← List.take_append_drop 24 words1, List.all_append, w_t1, ← List.take_append_drop 24 (words1.drop 24), List.all_append, w_t2, ← List.take_append_drop 24 ((words1.drop 24).drop 24), List.all_append, w_t3, ← List.take_append_drop 24 (((words1.drop 24).drop 24).drop 24), List.all_append, w_t4, ← List.take_append_drop 24 ((((words1.drop 24).drop 24).drop 24).drop 24), List.all_append, w_t5, ← List.take_append_drop 24 (((((words1.drop 24).drop 24).drop 24).drop 24).drop 24), List.all_append, w_t6, ← List.take_append_drop 24 ((((((words1.drop 24).drop 24).drop 24).drop 24).drop 24).drop 24), List.all_append, w_t7, ← List.take_append_drop 24 (((((((words1.drop 24).drop 24).drop 24).drop 24).drop 24).drop 24).drop 24), List.all_append, w_t8, ← List.take_append_drop 24 ((((((((words1.drop 24).drop 24).drop 24).drop 24).drop 24).drop 24).drop 24).drop 24), List.all_append, w_t9, w_t10]
  rfl
set_option maxRecDepth 65536 in
theorem w_rest : rest_1_c.before args0 about1 = true := by decide +kernel
set_option maxRecDepth 65536 in
theorem w_case : (Jvm.Cond.and given_1 narrow_1).before args0 about1 = true := by decide +kernel
theorem w_applies : (headSpec (Jvm.Cond.code x code maxLocals ret :: tables_1) room_1).applies x e0.platform about1 = true :=
  (Spec.applies_iff w_frames).mpr ⟨w_running, w_runnable, w_alone, w_named, w_hears, w_ripe, w_room, w_tables⟩
theorem atStart : AtStart classFile x code maxLocals ret World_1 tables_1 room_1 Calls_1 rest_1 Pre_1 launch0 p0 e0 about1 theMethod args0 below0 :=
  ⟨lists_1, trivial, launch0.admits_env _ _ _, launch0.least_env, fairChoices_fair.cas, fairChoices_fair.clock, w_frames, w_args, w_heap, w_applies, trivial, w_rest, w_case⟩
end start1
theorem witness_1 : WitnessClaimed_1 := ⟨start1.p0, start1.e0, start1.about1, start1.theMethod, start1.args0, start1.below0, start1.atStart⟩
end Jvm.Pilot.@@N@@
