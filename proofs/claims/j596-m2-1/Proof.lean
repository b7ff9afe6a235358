import JvmDerived
import JvmDerived.Pilot.@@N@@Statement
import JvmDerived.Pilot.@@N@@Code
set_option linter.unusedVariables false
set_option linter.unusedSimpArgs false

namespace Jvm.Pilot.@@N@@
namespace Own
open Jvm Jvm.ClassFile Sem Op Lib Jvm.Free Jvm.Stand Jvm.LawKit Jvm.RoadKit
section Kit
variable {p : Program} {l : Launch} {e : Env} {R : Room} {s : State} {m : MethodId} {args : Array Value} {below : List Frame} {meth : Method} {c : Code} {T : State} {locs : List Loc} {cells slots : Nat} {Z : State} {a0 : Array Value} {h : Heap}
/-- what is left to show from a state S on: the run comes to the method's end, with Q of what it returned, the heap and the places written -/
def Gl (p : Program) (e : Env) (below : List Frame) (s : State) (rc rs : Nat) (Q : Option Value → Heap → List Loc → Prop) (S : State) : Prop :=
  ∃ s₂ o, Steps p.tables e below S s₂ ∧ s₂.status = .running ∧ Ended s₂ below o ∧ ∃ v L, o = .returned v ∧ Q v s₂.heap L ∧ FrameEnd s o s₂ L rc rs
variable {rc rs : Nat} {Q : Option Value → Heap → List Loc → Prop} {S S' : State}
theorem Gl.by (k : ∀ t, Steps p.tables e below S' t → Steps p.tables e below S t) (g : Gl p e below s rc rs Q S') : Gl p e below s rc rs Q S := by
  obtain ⟨t, o, h1, h2⟩ := g
  exact ⟨t, o, k t h1, h2⟩
theorem Gl.tr (k : Steps p.tables e below S S') (g : Gl p e below s rc rs Q S') : Gl p e below s rc rs Q S := Gl.by (fun _ q => k.trans q) g
theorem Gl.mono {Q' : Option Value → Heap → List Loc → Prop} (hq : ∀ v h L, Q v h L → Q' v h L) (g : Gl p e below s rc rs Q S) : Gl p e below s rc rs Q' S := by
  obtain ⟨t, o, h1, h2, h3, v, L, h4, h5, h6⟩ := g
  exact ⟨t, o, h1, h2, h3, v, L, h4, hq _ _ _ h5, h6⟩
theorem wider {c' n' : Nat} (X : Stand p l e R s m args below meth c T locs cells slots) (hc : cells ≤ c') (hn : slots ≤ n') : Stand p l e R s m args below meth c T locs c' n' :=
  { X with same := X.same.mono hc hn }
theorem Gl.retZ (X : Stand p l e R s m args below meth c T locs cells slots) (hx : p.tables.exec = Jvm.exec) (hlk : meth.locks = false) {t : FieldType} (hret : meth.sig.returnType = some t) (ht : t = .boolean ∨ t = .byte ∨ t = .char ∨ t = .short)
    {pc : Nat} {Ls : Array Slot} {z : Int32} {rest : List Value} (hd : decode c.code pc = .ok (.ireturn, 1)) (hc : cells ≤ rc) (hs : slots ≤ rs) (hq : Q (some (.int (nar t z))) T.heap locs) :
    Gl p e below s rc rs Q (T.setTop (mkF m pc Ls (.int z :: rest))) := by
  obtain ⟨fs, hr, hrun, hended, hW, hsame⟩ := X.leave (v := some (.int (nar t z))) (fun h => by rw [hret] at h; cases h) hlk
  exact ⟨_, _, retN X hx hret ht hd hr, hrun, hended, _, _, rfl, hq, ⟨_, rfl⟩, hW, hsame.mono hc hs⟩
theorem Gl.retI (X : Stand p l e R s m args below meth c T locs cells slots) (hx : p.tables.exec = Jvm.exec) (hlk : meth.locks = false) (hret : meth.sig.returnType = some .int)
    {pc : Nat} {Ls : Array Slot} {z : Int32} {rest : List Value} (hd : decode c.code pc = .ok (.ireturn, 1)) (hc : cells ≤ rc) (hs : slots ≤ rs) (hq : Q (some (.int z)) T.heap locs) :
    Gl p e below s rc rs Q (T.setTop (mkF m pc Ls (.int z :: rest))) := by
  obtain ⟨fs, hr, hrun, hended, hW, hsame⟩ := X.leave (v := some (.int z)) (fun h => by rw [hret] at h; cases h) hlk
  refine ⟨_, _, ?_, hrun, hended, _, _, rfl, hq, ⟨_, rfl⟩, hW, hsame.mono hc hs⟩
  have hm' : T.vm.method? m = some meth := X.method'
  have hn : narrow .int (.int z) = .int z := rfl
  show Steps p.tables e below (T.setTop { method := m, pc := pc, locals := Ls, stack := _ :: rest, locked := none }) _
  jvm_step X.here [X.here.top, hx, hd, hm', hret, hn]
  first | (intro acts; rw [hr _ acts rfl rfl rfl]) | rw [hr _ _ rfl rfl rfl]
  exact Steps.refl _
theorem Gl.retA (X : Stand p l e R s m args below meth c T locs cells slots) (hx : p.tables.exec = Jvm.exec) (hlk : meth.locks = false) {t : FieldType} (hret : meth.sig.returnType = some t) (ht : t.isReference = true)
    {pc : Nat} {Ls : Array Slot} {w : Value} {rest : List Value} (hv : w.isRef = true) (hd : decode c.code pc = .ok (.areturn, 1)) (hc : cells ≤ rc) (hs : slots ≤ rs) (hq : Q (some w) T.heap locs) :
    Gl p e below s rc rs Q (T.setTop (mkF m pc Ls (w :: rest))) := by
  obtain ⟨fs, hr, hrun, hended, hW, hsame⟩ := X.leave (v := some w) (fun h => by rw [hret] at h; cases h) hlk
  refine ⟨_, _, ?_, hrun, hended, _, _, rfl, hq, ⟨_, rfl⟩, hW, hsame.mono hc hs⟩
  have hm' : T.vm.method? m = some meth := X.method'
  show Steps p.tables e below (T.setTop { method := m, pc := pc, locals := Ls, stack := _ :: rest, locked := none }) _
  jvm_step X.here [X.here.top, hx, hd, hm', hret, hv, ht]
  first | (intro acts; rw [hr _ acts rfl rfl rfl]) | rw [hr _ _ rfl rfl rfl]
  exact Steps.refl _
theorem Gl.retV (X : Stand p l e R s m args below meth c T locs cells slots) (hx : p.tables.exec = Jvm.exec) (hlk : meth.locks = false) (hret : meth.sig.returnType = none)
    {pc : Nat} {Ls : Array Slot} (hd : decode c.code pc = .ok (.return_, 1)) (hc : cells ≤ rc) (hs : slots ≤ rs) (hq : Q none T.heap locs) :
    Gl p e below s rc rs Q (T.setTop (mkF m pc Ls [])) := by
  obtain ⟨fs, hr, hrun, hended, hW, hsame⟩ := X.leave (v := none) (fun _ => rfl) hlk
  exact ⟨_, _, X.returnOut hx hret hd hr, hrun, hended, _, _, rfl, hq, ⟨_, rfl⟩, hW, hsame.mono hc hs⟩
/-- a body's contract -/
abbrev Ctr (l : Launch) (Z : State) (y : MethodName) (bytes : ByteArray) (maxL : Nat) (ret : Option FieldType) (ws : List Jvm.Cond) (rm : Room) (as' : Array Value) (h : Heap) (Q : Option Value → Heap → List Loc → Prop) : Prop :=
  MetFree l y (head1 (Jvm.Cond.code y bytes maxL ret :: ws) rm) (fun a U => a = as' ∧ Z.Warmed39 U.vm ∧ U.heap = h) (fun _ _ _ _ _ => True) (fun _ U o U' => ∃ v L, o = .returned v ∧ Q v U'.heap L ∧ FrameEnd U o U' L rm.cells rm.slots)
theorem Ctr.intro {y : MethodName} {bytes : ByteArray} {maxL : Nat} {ret : Option FieldType} {ws : List Jvm.Cond} {rm : Room} {as' : Array Value} (hpn : plainName y.cls = true) (Ls : Array Slot) (hef : ∀ m, entryFrame m as' maxL = mkF m 0 Ls [])
    (body : ∀ (p : Program) (e : Env) (s : State) (m : MethodId) (below : List Frame) (meth : Method) (c : Code) (T : State), p.tables.exec = Jvm.exec → c.code = bytes → c.maxLocals = maxL → s.vm.findClass y.cls = some m.cls → meth.name = y.name → meth.sig.returnType = ret → meth.locks = false → Z.Warmed39 s.vm →
      Stand p l e rm s m as' below meth c T [] 0 0 → T.heap = h → Gl p e below s rm.cells rm.slots Q (T.setTop (mkF m 0 Ls []))) : Ctr l Z y bytes maxL ret ws rm as' h Q := by
  refine MetFree.of_bodySF (plainFor_of_name hpn) hisR ?_
  intro p e s m args below meth c s₁ Bd hml0 hP hK
  obtain ⟨rfl, hZ, hh⟩ := hP
  have g := body p e s m below meth c s₁ Bd.exec Bd.bytes hml0 (findClass_of_methodNamed Bd.named) (name_of_methodNamed Bd.named Bd.method).1 Bd.returns (BodyLoose.notSynchronized Bd) hZ (Stand.of_body Bd) (by rw [← hh, Bd.state]; rfl)
  rw [← hef m] at g
  exact g
/-- a call's payer, by what it leaves -/
abbrev BackQ (l : Launch) (R : Room) (p : Program) (e : Env) (below : List Frame) (s : State) (args : Array Value) (y : MethodName) (len W : Nat) (as' : Array Value) (h : Heap) (kc ks : Nat) (Qc : Option Value → Heap → List Loc → Prop) : Prop :=
  Back l R p e below s args y len W (fun A a => a = as' ∧ A.U.heap = h ∧ A.cells + kc ≤ R.cells ∧ A.slots + ks ≤ R.slots) (fun A _ v B => ∃ L, Qc v B.U.heap L ∧ B.locs = A.locs ++ L ∧ B.cells = A.cells + kc ∧ B.slots = A.slots + ks)
theorem backC {y : MethodName} {bytes : ByteArray} {maxL : Nat} {ret : Option FieldType} {rm : Room} {len W : Nat} {as' : Array Value} {Qc : Option Value → Heap → List Loc → Prop} (hM : Ctr l Z y bytes maxL ret [] rm as' h Qc)
    (hZ : Z.Warmed39 s.vm) (wc : (Jvm.Cond.code y bytes maxL ret).before a0 Z = true) (wz : (Jvm.Cond.initialized y.cls).before a0 Z = true) (hf : rm.frames + 1 ≤ R.frames) (hl : W + (maxL + 11) + rm.locals ≤ R.locals) :
    BackQ l R p e below s args y len W as' h rm.cells rm.slots Qc := backOf hM hZ wc wz hf hl
variable {W kc ks : Nat} {as' : Array Value} {Qc : Option Value → Heap → List Loc → Prop}
theorem Gl.stat (X : Stand p l e R s m args below meth c T locs cells slots) (hx : p.tables.exec = Jvm.exec) (hZ : Z.Warmed39 s.vm) {own : String} {index : Nat} {y : MethodName} {bytes : ByteArray} {maxL : Nat} {ret : Option FieldType}
    (hown : s.vm.findClass own = some m.cls) (w1 : (Jvm.Cond.methodLink own index y).before a0 Z = true) (w2 : (Jvm.Cond.static y).before a0 Z = true) (w3 : (Jvm.Cond.initialized y.cls).before a0 Z = true)
    (w4 : (Jvm.Cond.code y bytes maxL ret).before a0 Z = true) (hy : y.cls ≠ "java/lang/invoke/MethodHandle" ∧ y.cls ≠ "java/lang/invoke/VarHandle")
    (hK : BackQ l R p e below s args y 3 W as' h kc ks Qc) (eT : T.heap = h) {pc : Nat} {Ls : Array Slot} {st : List Value} (hd : decode c.code pc = .ok (.invokestatic index, 3)) (hsz : Ls.size = c.maxLocals) (argsL rest : List Value)
    (hlen : ∀ sig, parseMethodDescriptor y.desc = some sig → argsL.length = sig.parameters.length) (hst : st = argsL.reverse ++ rest) (has : argsL.toArray = as') (hW : (rest.map fun v => v.category).sum ≤ W) (hc : cells + kc ≤ R.cells) (hs : slots + ks ≤ R.slots)
    (k : ∀ v T' L, Stand p l e R s m args below meth c T' (locs ++ L) (cells + kc) (slots + ks) → Qc v T'.heap L → Gl p e below s rc rs Q (T'.setTop (mkF m (pc + 3) Ls (v.toList ++ rest)))) :
    Gl p e below s rc rs Q (T.setTop (mkF m pc Ls st)) := by
  obtain ⟨v, vm₁, ⟨U', ls, cc, sl⟩, hW₁, X', ⟨L, q1, q2, q3, q4⟩, stp⟩ := Jvm.LawKit.callS X hx hown (mvT hZ w1) (mvT hZ w2) (mvT hZ w3) (mvT hZ w4) hy hK (g := mkF m pc Ls st) rfl hsz hlen hst (by show 2 * 0 + _ ≤ _; omega) hd (fun _ _ => ⟨has, eT, hc, hs⟩)
  dsimp only [Pt.U, Pt.locs, Pt.cells, Pt.slots] at X' q1 q2 q3 q4 stp
  subst q2 q3 q4
  exact Gl.by stp (k v U' L X' q1)
theorem Gl.spec (X : Stand p l e R s m args below meth c T locs cells slots) (hx : p.tables.exec = Jvm.exec) (hZ : Z.Warmed39 s.vm) {own : String} {index : Nat} {y : MethodName} {bytes : ByteArray} {maxL : Nat} (hy1 : y.name = "<init>")
    (hown : s.vm.findClass own = some m.cls) (w1 : (Jvm.Cond.methodLink own index y).before a0 Z = true) (w2 : (Jvm.Cond.instanceMethod y).before a0 Z = true)
    (w4 : (Jvm.Cond.code y bytes maxL none).before a0 Z = true) (hy : y.cls ≠ "java/lang/invoke/MethodHandle" ∧ y.cls ≠ "java/lang/invoke/VarHandle")
    (hK : BackQ l R p e below s args y 3 W as' h kc ks Qc) (eT : T.heap = h) {pc : Nat} {Ls : Array Slot} {st : List Value} (hd : decode c.code pc = .ok (.invokespecial index, 3)) (hsz : Ls.size = c.maxLocals) (a : Addr) (argsL rest : List Value)
    (hlen : ∀ sig, parseMethodDescriptor y.desc = some sig → argsL.length = sig.parameters.length) (hst : st = argsL.reverse ++ .ref a :: rest) (has : (.ref a :: argsL).toArray = as') (hW : (rest.map fun v => v.category).sum ≤ W) (hc : cells + kc ≤ R.cells) (hs : slots + ks ≤ R.slots)
    (k : ∀ v T' L, Stand p l e R s m args below meth c T' (locs ++ L) (cells + kc) (slots + ks) → Qc v T'.heap L → Gl p e below s rc rs Q (T'.setTop (mkF m (pc + 3) Ls (v.toList ++ rest)))) :
    Gl p e below s rc rs Q (T.setTop (mkF m pc Ls st)) := by
  obtain ⟨v, vm₁, ⟨U', ls, cc, sl⟩, hW₁, X', ⟨L, q1, q2, q3, q4⟩, stp⟩ := X.specialBack hx hy1 hown (mvT hZ w1) (mvT hZ w2) (mvT hZ w4) hy hK (g := mkF m pc Ls st) rfl hsz (Steps.refl _) hlen hst (by show 2 * 0 + _ ≤ _; omega) hd (fun _ _ => ⟨has, eT, hc, hs⟩)
  dsimp only [Pt.U, Pt.locs, Pt.cells, Pt.slots] at X' q1 q2 q3 q4 stp
  subst q2 q3 q4
  exact Gl.tr stp (k v U' L X' q1)
theorem Gl.virt (X : Stand p l e R s m args below meth c T locs cells slots) (hx : p.tables.exec = Jvm.exec) (hZ : Z.Warmed39 s.vm) {own C : String} {index : Nat} {y z : MethodName}
    (hown : s.vm.findClass own = some m.cls) (w1 : (Jvm.Cond.methodLink own index y).before a0 Z = true) (w2 : (Jvm.Cond.declares y).before a0 Z = true) (w3 : (Jvm.Cond.selects C y z).before a0 Z = true) (w4 : (Jvm.Cond.instanceMethod z).before a0 Z = true) (nf : NotFace s y)
    (hy : y.cls ≠ "java/lang/invoke/MethodHandle" ∧ y.cls ≠ "java/lang/invoke/VarHandle") {a : Addr} (E : Exa Z h a C)
    (hK : BackQ l R p e below s args z 3 W as' h kc ks Qc) (eT : T.heap = h) {pc : Nat} {Ls : Array Slot} {st : List Value} (hd : decode c.code pc = .ok (.invokevirtual index, 3)) (hsz : Ls.size = c.maxLocals) (argsL rest : List Value)
    (hlen : ∀ sig, parseMethodDescriptor y.desc = some sig → argsL.length = sig.parameters.length) (hst : st = argsL.reverse ++ .ref a :: rest) (has : (.ref a :: argsL).toArray = as') (hW : (rest.map fun v => v.category).sum ≤ W) (hc : cells + kc ≤ R.cells) (hs : slots + ks ≤ R.slots)
    (k : ∀ v T' L, Stand p l e R s m args below meth c T' (locs ++ L) (cells + kc) (slots + ks) → Qc v T'.heap L → Gl p e below s rc rs Q (T'.setTop (mkF m (pc + 3) Ls (v.toList ++ rest)))) :
    Gl p e below s rc rs Q (T.setTop (mkF m pc Ls st)) := by
  obtain ⟨cq, kq, i1, i2, i3⟩ := isOf hZ eT E
  obtain ⟨v, vm₁, ⟨U', ls, cc, sl⟩, hW₁, X', ⟨L, q1, q2, q3, q4⟩, stp⟩ := X.virtualBack hx hown (mvT hZ w1) (mvT hZ w2) nf (mvT hZ w3) (mvT hZ w4) hy hK i1 i3 (g := mkF m pc Ls st) rfl hsz (Steps.refl _) hlen hst (by show 2 * 0 + _ ≤ _; omega) hd (fun _ _ => ⟨has, eT, hc, hs⟩)
  dsimp only [Pt.U, Pt.locs, Pt.cells, Pt.slots] at X' q1 q2 q3 q4 stp
  subst q2 q3 q4
  exact Gl.tr stp (k v U' L X' q1)
theorem Gl.face (X : Stand p l e R s m args below meth c T locs cells slots) (hx : p.tables.exec = Jvm.exec) (hZ : Z.Warmed39 s.vm) {own C : String} {index count : Nat} {y z : MethodName}
    (hown : s.vm.findClass own = some m.cls) (w1 : (Jvm.Cond.methodLink own index y).before a0 Z = true) (w2 : (Jvm.Cond.declares y).before a0 Z = true) (w3 : (Jvm.Cond.interfaceMethod y.cls y.cls y.name y.desc).before args s = true) (w4 : (Jvm.Cond.selects C y z).before a0 Z = true) (w5 : (Jvm.Cond.instanceMethod z).before a0 Z = true)
    (w6 : (Jvm.Cond.publicMethod z).before a0 Z = true) (w7 : (Jvm.Cond.unhidden C y.name y.desc).before a0 Z = true) (w8 : (Jvm.Cond.castable C y.cls).before a0 Z = true)
    (hy : y.cls ≠ "java/lang/invoke/MethodHandle" ∧ y.cls ≠ "java/lang/invoke/VarHandle") {a : Addr} (E : Exa Z h a C)
    (hK : BackQ l R p e below s args z 5 W as' h kc ks Qc) (eT : T.heap = h) {pc : Nat} {Ls : Array Slot} {st : List Value} (hd : decode c.code pc = .ok (.invokeinterface index count, 5)) (hsz : Ls.size = c.maxLocals) (argsL rest : List Value)
    (hlen : ∀ sig, parseMethodDescriptor y.desc = some sig → argsL.length = sig.parameters.length) (hst : st = argsL.reverse ++ .ref a :: rest) (has : (.ref a :: argsL).toArray = as') (hW : (rest.map fun v => v.category).sum ≤ W) (hc : cells + kc ≤ R.cells) (hs : slots + ks ≤ R.slots)
    (k : ∀ v T' L, Stand p l e R s m args below meth c T' (locs ++ L) (cells + kc) (slots + ks) → Qc v T'.heap L → Gl p e below s rc rs Q (T'.setTop (mkF m (pc + 5) Ls (v.toList ++ rest)))) :
    Gl p e below s rc rs Q (T.setTop (mkF m pc Ls st)) := by
  obtain ⟨cq, kq, i1, i2, i3⟩ := isOf hZ eT E
  obtain ⟨v, vm₁, ⟨U', ls, cc, sl⟩, hW₁, X', ⟨L, q1, q2, q3, q4⟩, stp⟩ := X.interfaceBack hx (xi := y) (y := z) hown (mvT hZ w1) (mvT hZ w2) w3 (mvT hZ w4) (mvT hZ w5) (mvT hZ w6) (mvT hZ w7) (mvT hZ w8) hy hK i1 i2 i3 (g := mkF m pc Ls st) rfl hsz (Steps.refl _) hlen hst (by show 2 * 0 + _ ≤ _; omega) hd (fun _ _ => ⟨has, eT, hc, hs⟩)
  dsimp only [Pt.U, Pt.locs, Pt.cells, Pt.slots] at X' q1 q2 q3 q4 stp
  subst q2 q3 q4
  exact Gl.tr stp (k v U' L X' q1)
theorem Gl.priv (X : Stand p l e R s m args below meth c T locs cells slots) (hx : p.tables.exec = Jvm.exec) (hZ : Z.Warmed39 s.vm) {own C : String} {index : Nat} {y : MethodName} {bytes : ByteArray} {maxL : Nat} {ret : Option FieldType}
    (hown : s.vm.findClass own = some m.cls) (w1 : (Jvm.Cond.methodLink own index y).before a0 Z = true) (w2 : (Jvm.Cond.instanceMethod y).before a0 Z = true) (w3 : (Jvm.Cond.selects y.cls y y).before a0 Z = true) (w4 : (Jvm.Cond.privateMethod y).before a0 Z = true) (w5 : (Jvm.Cond.code y bytes maxL ret).before a0 Z = true)
    (hy : y.cls ≠ "java/lang/invoke/MethodHandle" ∧ y.cls ≠ "java/lang/invoke/VarHandle") {a : Addr} (E : Exa Z h a C)
    (hK : BackQ l R p e below s args y 3 W as' h kc ks Qc) (eT : T.heap = h) {pc : Nat} {Ls : Array Slot} {st : List Value} (hd : decode c.code pc = .ok (.invokevirtual index, 3)) (hsz : Ls.size = c.maxLocals) (argsL rest : List Value)
    (hlen : ∀ sig, parseMethodDescriptor y.desc = some sig → argsL.length = sig.parameters.length) (hst : st = argsL.reverse ++ .ref a :: rest) (has : (.ref a :: argsL).toArray = as') (hW : (rest.map fun v => v.category).sum ≤ W) (hc : cells + kc ≤ R.cells) (hs : slots + ks ≤ R.slots)
    (k : ∀ v T' L, Stand p l e R s m args below meth c T' (locs ++ L) (cells + kc) (slots + ks) → Qc v T'.heap L → Gl p e below s rc rs Q (T'.setTop (mkF m (pc + 3) Ls (v.toList ++ rest)))) :
    Gl p e below s rc rs Q (T.setTop (mkF m pc Ls st)) := by
  obtain ⟨cq, i1, i2⟩ := E.cell
  obtain ⟨v, vm₁, ⟨U', ls, cc, sl⟩, hW₁, X', ⟨L, q1, q2, q3, q4⟩, stp⟩ := X.privateBack hx hown (mvT hZ w1) (mvT hZ w2) (mvT hZ w3) (Cond.privateMethod_at (mvP hZ w4 (args := #[]))) (mvT hZ w5) hy hK (g := mkF m pc Ls st) rfl hsz (Steps.refl _) (by rw [eT]; exact i1) i2 hlen hst (by show 2 * 0 + _ ≤ _; omega) hd (fun _ _ => ⟨has, eT, hc, hs⟩)
  dsimp only [Pt.U, Pt.locs, Pt.cells, Pt.slots] at X' q1 q2 q3 q4 stp
  subst q2 q3 q4
  exact Gl.tr stp (k v U' L X' q1)
theorem nf_of_sel {C : String} {y z y' : MethodName} (hsel : (Jvm.Cond.selects C y z).before args s = true) (hc : z.cls = y'.cls) : NotFace s y' := fun r0 h0 => by
  obtain ⟨c2, r2, m2, q1, q2, q3, q4, kP, hkP, hkPi⟩ := Cond.selects_spec hsel
  have a := findClass_of_methodNamed h0
  have b := findClass_of_methodNamed q3
  rw [hc] at b
  have e : r0.cls = m2.cls := Option.some.inj (a.symm.trans b)
  exact ⟨kP, by rw [e]; exact hkP, hkPi⟩
theorem nea {a b : Nat} (h : a < b ∨ b < a) : a ≠ b := by omega
theorem fitsR {C : String} {v : Value} (h : v.isRef = true) : fits (.object C) v = true := by cases v <;> first | rfl | (simp [Value.isRef] at h)
theorem narR {C : String} {v : Value} : narrow (.object C) v = v := by cases v <;> rfl
theorem isref_cat {v : Value} (h : v.isRef = true) : v.category = 1 := by cases v <;> first | rfl | (simp [Value.isRef] at h)
theorem notAssign {C O K : String} {n : Nat} (w0 : (Jvm.Cond.noSuperclass O).before a0 Z = true) (w1 : (Jvm.Cond.superclass C O).before a0 Z = true) (wi : (Jvm.Cond.instantiable K n).before a0 Z = true) (hn : C ≠ K) (hn' : O ≠ K) :
    ∃ c t, Z.vm.findClass C = some c ∧ Z.vm.findClass K = some t ∧ Z.vm.assignable c t = false := by
  obtain ⟨t, kt, t1, t2, t3, t4, -⟩ := Cond.instantiable_spec wi
  obtain ⟨o, ko, o1, o2, o3, -, -⟩ := Cond.noSuperclass_spec w0
  obtain ⟨c, h0⟩ := found_sup w1
  obtain ⟨p, k, kp, h1, h2, h3, h4, h5, -, h7⟩ := Cond.superclass_spec h0 w1
  cases o1.symm.trans h1
  have ne1 : c ≠ t := ids_ne h0 t1 hn
  have ne2 : o ≠ t := ids_ne o1 t1 hn'
  have t5 : kt.isInterface = false := by
    cases q : kt.isInterface with
    | false => rfl
    | true => rw [q] at t4; cases t4
  have n2 : ∀ fuel, Z.vm.isSubclassAux fuel o t = false := fun fuel => by
    cases fuel with
    | zero => rfl
    | succ f => simp [Vm.isSubclassAux, ne2, o2, o3]
  have n3 : ∀ fuel, Z.vm.isSubclassAux fuel c t = false := fun fuel => by
    cases fuel with
    | zero => rfl
    | succ f => simp [Vm.isSubclassAux, ne1, h2, h4, n2]
  refine ⟨c, t, h0, t1, ?_⟩
  show Z.vm.assignableAux (255 + 1) c t = false
  simp [Vm.assignableAux, ne1, h2, t2, h5, t3, t5, Vm.isSubclass, n3]
end Kit
end Own
end Jvm.Pilot.@@N@@
namespace Jvm.Pilot.@@N@@
namespace Own
open Jvm Jvm.ClassFile Sem Op Lib Jvm.Free Jvm.Stand Jvm.LawKit Jvm.RoadKit
section Tm
variable {Z : State} {a0 : Array Value} {h h' : Heap}
abbrev IC : String := "java/lang/Integer"
abbrev ICC : String := "java/lang/Integer$IntegerCache"
abbrev TMN : String := "java/util/TreeMap"
abbrev TME : String := "java/util/TreeMap$Entry"
abbrev TED : String := "Ljava/util/TreeMap$Entry;"
abbrev OBD : String := "Ljava/lang/Object;"
/-- an Integer that holds i -/
def IntO (Z : State) (h : Heap) (k : Addr) (i : Int32) : Prop := Exa Z h k "java/lang/Integer" ∧ Fld Z h k "java/lang/Integer" "value" "I" (.int i)
theorem IntO.keep {k : Addr} {i : Int32} {ws : List Addr} (F : IntO Z h k i) (K : Keep h h' ws) (q : k ∉ ws) : IntO Z h' k i := ⟨F.1.keep K, F.2.keep K q⟩
theorem IntO.keepC {k : Addr} {i : Int32} {ws : List Addr} (F : IntO Z h k i) (K : Keep h h' ws) (q : ∀ b ∈ ws, h.size ≤ b ∨ ∃ C, C ≠ "java/lang/Integer" ∧ Exa Z h b C) : IntO Z h' k i :=
  F.keep K fun hk => by
    rcases q k hk with q | ⟨C, q1, q2⟩
    · exact absurd F.1.lt (Nat.not_lt.mpr q)
    · exact ne_exa q2 F.1 q1 rfl
def cmp (a b : Int32) : Int32 := if a < b then -1 else if a = b then 0 else 1
/-- the cache of small Integers at the start -/
def ICok (Z : State) : Prop := ∃ (arr : Addr) (cl : Cell), Sta Z Z.heap "java/lang/Integer$IntegerCache" "high" "I" (.int 127) ∧ Sta Z Z.heap "java/lang/Integer$IntegerCache" "cache" "[Ljava/lang/Integer;" (.ref arr) ∧ Arr Z Z.heap arr cl (.object "java/lang/Integer") ∧
  ∀ w : Int32, ¬ w < -128 → ¬ (127 : Int32) < w → ∃ box, ¬ ((w + 128) < 0 ∨ cl.slots.size ≤ (w + 128).toNatClampNeg) ∧ cl.slots[(w + 128).toNatClampNeg]? = some (.ref box) ∧ IntO Z Z.heap box w
/-- a node of the tree -/
def Nd (Z : State) (h : Heap) (x k : Addr) (i : Int32) (v lf rg pa : Value) (co : Int32) : Prop :=
  Exa Z h x "java/util/TreeMap$Entry" ∧ Fld Z h x "java/util/TreeMap$Entry" "key" "Ljava/lang/Object;" (.ref k) ∧ Fld Z h x "java/util/TreeMap$Entry" "value" "Ljava/lang/Object;" v ∧ Fld Z h x "java/util/TreeMap$Entry" "left" "Ljava/util/TreeMap$Entry;" lf ∧
  Fld Z h x "java/util/TreeMap$Entry" "right" "Ljava/util/TreeMap$Entry;" rg ∧ Fld Z h x "java/util/TreeMap$Entry" "parent" "Ljava/util/TreeMap$Entry;" pa ∧ Fld Z h x "java/util/TreeMap$Entry" "color" "Z" (.int co) ∧ IntO Z h k i ∧ v.isRef = true
/-- the map's own fields -/
def Tmo (Z : State) (h : Heap) (t : Addr) (rt : Value) (sz mc : Int32) : Prop :=
  Exa Z h t "java/util/TreeMap" ∧ Fld Z h t "java/util/TreeMap" "comparator" "Ljava/util/Comparator;" .null ∧ Fld Z h t "java/util/TreeMap" "root" "Ljava/util/TreeMap$Entry;" rt ∧ Fld Z h t "java/util/TreeMap" "size" "I" (.int sz) ∧ Fld Z h t "java/util/TreeMap" "modCount" "I" (.int mc)
theorem Nd.keep0 {x k : Addr} {i co : Int32} {v lf rg pa : Value} (F : Nd Z h x k i v lf rg pa co) (K : Keep h h' []) : Nd Z h' x k i v lf rg pa co := by
  obtain ⟨a1, a2, a3, a4, a5, a6, a7, a8, a9⟩ := F
  exact ⟨a1.keep K, a2.keep K nin0, a3.keep K nin0, a4.keep K nin0, a5.keep K nin0, a6.keep K nin0, a7.keep K nin0, a8.keep K nin0, a9⟩
theorem Tmo.keep0 {t : Addr} {sz mc : Int32} {rt : Value} (F : Tmo Z h t rt sz mc) (K : Keep h h' []) : Tmo Z h' t rt sz mc := by
  obtain ⟨a1, a2, a3, a4, a5⟩ := F
  exact ⟨a1.keep K, a2.keep K nin0, a3.keep K nin0, a4.keep K nin0, a5.keep K nin0⟩
/-- looking for q from the node p on ends at res, within n nodes -/
def Sr (Z : State) (h : Heap) (q : Int32) : Nat → Value → Value → Prop
  | 0, p, res => p = .null ∧ res = .null
  | n + 1, p, res => (p = .null ∧ res = .null) ∨ ∃ (x k : Addr) (i : Int32) (v lf rg pa : Value) (co : Int32), p = .ref x ∧ Nd Z h x k i v lf rg pa co ∧ lf.isRef = true ∧ rg.isRef = true ∧ ((q = i ∧ res = .ref x) ∨ (q < i ∧ Sr Z h q n lf res) ∨ (i < q ∧ Sr Z h q n rg res))
theorem Sr.keep0 {q : Int32} (K : Keep h h' []) : ∀ (n : Nat) (p res : Value), Sr Z h q n p res → Sr Z h' q n p res
  | 0, _, _, F => F
  | n + 1, p, res, F => by
    rcases F with F | ⟨x, k, i, v, lf, rg, pa, co, e, N, r1, r2, F⟩
    · exact Or.inl F
    · refine Or.inr ⟨x, k, i, v, lf, rg, pa, co, e, N.keep0 K, r1, r2, ?_⟩
      rcases F with F | ⟨q1, F⟩ | ⟨q1, F⟩
      · exact Or.inl F
      · exact Or.inr (Or.inl ⟨q1, Sr.keep0 K n _ _ F⟩)
      · exact Or.inr (Or.inr ⟨q1, Sr.keep0 K n _ _ F⟩)
/-- what a look-up's node says -/
def Ans (Z : State) (h : Heap) (o : Option Value) (res : Value) : Prop := (o = none ∧ res = .null) ∨ ∃ (x : Addr) (w : Value), o = some w ∧ res = .ref x ∧ Fld Z h x "java/util/TreeMap$Entry" "value" "Ljava/lang/Object;" w ∧ w.isRef = true ∧ Exa Z h x "java/util/TreeMap$Entry"
theorem Ans.keep0 {o : Option Value} {res : Value} (F : Ans Z h o res) (K : Keep h h' []) : Ans Z h' o res := by
  rcases F with F | ⟨x, w, e1, e2, f1, f2, f3⟩
  · exact Or.inl F
  · exact Or.inr ⟨x, w, e1, e2, f1.keep K nin0, f2, f3.keep K⟩
/-- the map at t, as a function of its keys -/
def Mp (Z : State) (h : Heap) (t : Addr) (sz : Int32) (f : Int32 → Option Value) : Prop := ∃ rt mc, Tmo Z h t rt sz mc ∧ rt.isRef = true ∧ ∀ q, ∃ n res, Sr Z h q n rt res ∧ Ans Z h (f q) res
theorem Mp.keep0 {t : Addr} {sz : Int32} {f : Int32 → Option Value} (F : Mp Z h t sz f) (K : Keep h h' []) : Mp Z h' t sz f := by
  obtain ⟨rt, mc, a, b, g⟩ := F
  exact ⟨rt, mc, a.keep0 K, b, fun q => by obtain ⟨n, res, s1, s2⟩ := g q; exact ⟨n, res, Sr.keep0 K _ _ _ s1, s2.keep0 K⟩⟩
def Map1 (Z : State) (h : Heap) (t r k1 : Addr) (i1 : Int32) (v1 : Value) : Prop := ∃ mc, Tmo Z h t (.ref r) 1 mc ∧ Nd Z h r k1 i1 v1 .null .null .null 1
def Map2 (Z : State) (h : Heap) (t r k1 : Addr) (i1 : Int32) (v1 : Value) (e k2 : Addr) (i2 : Int32) (v2 : Value) : Prop := ¬ i2 = i1 ∧ ∃ mc, Tmo Z h t (.ref r) 2 mc ∧ Nd Z h r k1 i1 v1 (if i2 < i1 then .ref e else .null) (if i2 < i1 then .null else .ref e) .null 1 ∧ Nd Z h e k2 i2 v2 .null .null (.ref r) 0
theorem Map1.keep0 {t r k1 : Addr} {i1 : Int32} {v1 : Value} (F : Map1 Z h t r k1 i1 v1) (K : Keep h h' []) : Map1 Z h' t r k1 i1 v1 := by
  obtain ⟨mc, a, b⟩ := F; exact ⟨mc, a.keep0 K, b.keep0 K⟩
theorem Mp.zero {t : Addr} {mc : Int32} (F : Tmo Z h t .null 0 mc) : Mp Z h t 0 (fun _ => none) := ⟨_, _, F, rfl, fun q => ⟨0, .null, ⟨rfl, rfl⟩, Or.inl ⟨rfl, rfl⟩⟩⟩
theorem lt_or {a b : Int32} (h : ¬ a = b) : a < b ∨ b < a := by
  rw [Int32.lt_iff_toInt_lt, Int32.lt_iff_toInt_lt]
  have : ¬ a.toInt = b.toInt := fun e => h (Int32.toInt_inj.mp e)
  omega
theorem lt_asymm32 {a b : Int32} (h : a < b) : ¬ b < a := by rw [Int32.lt_iff_toInt_lt] at h ⊢; omega
theorem lt_ne32 {a b : Int32} (h : a < b) : ¬ a = b := fun e => by subst e; rw [Int32.lt_iff_toInt_lt] at h; omega
theorem Map1.mp {t r k1 : Addr} {i1 : Int32} {v1 : Value} (F : Map1 Z h t r k1 i1 v1) : Mp Z h t 1 (fun q => if q = i1 then some v1 else none) := by
  obtain ⟨mc, a, b⟩ := F
  refine ⟨_, _, a, rfl, fun q => ?_⟩
  by_cases e : q = i1
  · exact ⟨1, .ref r, Or.inr ⟨r, k1, i1, v1, _, _, _, _, rfl, b, rfl, rfl, Or.inl ⟨e, rfl⟩⟩, Or.inr ⟨r, v1, if_pos e, rfl, b.2.2.1, b.2.2.2.2.2.2.2.2, b.1⟩⟩
  · refine ⟨1, .null, Or.inr ⟨r, k1, i1, v1, _, _, _, _, rfl, b, rfl, rfl, Or.inr ?_⟩, Or.inl ⟨if_neg e, rfl⟩⟩
    rcases lt_or e with q1 | q1
    · exact Or.inl ⟨q1, rfl, rfl⟩
    · exact Or.inr ⟨q1, rfl, rfl⟩
theorem Map2.mp {t r k1 : Addr} {i1 : Int32} {v1 : Value} {e k2 : Addr} {i2 : Int32} {v2 : Value} (F : Map2 Z h t r k1 i1 v1 e k2 i2 v2) : Mp Z h t 2 (fun q => if q = i2 then some v2 else if q = i1 then some v1 else none) := by
  obtain ⟨ne, mc, a, b, c⟩ := F
  have r1 : (if i2 < i1 then Value.ref e else .null).isRef = true := by split <;> rfl
  have r2 : (if i2 < i1 then Value.null else .ref e).isRef = true := by split <;> rfl
  refine ⟨_, _, a, rfl, fun q => ?_⟩
  have leafN : ∀ q, ¬ q = i2 → Sr Z h q 1 (.ref e) .null := fun q hq => Or.inr ⟨e, k2, i2, v2, _, _, _, _, rfl, c, rfl, rfl, Or.inr (by
    rcases lt_or hq with q1 | q1
    · exact Or.inl ⟨q1, rfl, rfl⟩
    · exact Or.inr ⟨q1, rfl, rfl⟩)⟩
  have leafE : Sr Z h i2 1 (.ref e) (.ref e) := Or.inr ⟨e, k2, i2, v2, _, _, _, _, rfl, c, rfl, rfl, Or.inl ⟨rfl, rfl⟩⟩
  have nul : ∀ q, Sr Z h q 1 .null .null := fun q => Or.inl ⟨rfl, rfl⟩
  by_cases e2 : q = i2
  · subst e2
    refine ⟨2, .ref e, Or.inr ⟨r, k1, i1, v1, _, _, _, _, rfl, b, r1, r2, Or.inr ?_⟩, Or.inr ⟨e, v2, if_pos rfl, rfl, c.2.2.1, c.2.2.2.2.2.2.2.2, c.1⟩⟩
    rcases lt_or ne with q1 | q1
    · exact Or.inl ⟨q1, by rw [if_pos q1]; exact leafE⟩
    · exact Or.inr ⟨q1, by rw [if_neg (lt_asymm32 q1)]; exact leafE⟩
  · by_cases e1 : q = i1
    · exact ⟨2, .ref r, Or.inr ⟨r, k1, i1, v1, _, _, _, _, rfl, b, r1, r2, Or.inl ⟨e1, rfl⟩⟩, Or.inr ⟨r, v1, (if_neg e2).trans (if_pos e1), rfl, b.2.2.1, b.2.2.2.2.2.2.2.2, b.1⟩⟩
    · refine ⟨2, .null, Or.inr ⟨r, k1, i1, v1, _, _, _, _, rfl, b, r1, r2, Or.inr ?_⟩, Or.inl ⟨(if_neg e2).trans (if_neg e1), rfl⟩⟩
      rcases lt_or e1 with q1 | q1
      · refine Or.inl ⟨q1, ?_⟩
        by_cases d : i2 < i1
        · rw [if_pos d]; exact leafN q e2
        · rw [if_neg d]; exact nul q
      · refine Or.inr ⟨q1, ?_⟩
        by_cases d : i2 < i1
        · rw [if_pos d]; exact nul q
        · rw [if_neg d]; exact leafN q e2
end Tm
end Own
end Jvm.Pilot.@@N@@

namespace Jvm.Pilot.@@N@@
open Jvm Jvm.ClassFile Sem Op Lib Jvm.Free Jvm.Stand Jvm.LawKit Jvm.RoadKit Bundle Jvm.Pilot.@@N@@.Jvm.D Jvm.Pilot.@@N@@.Own
theorem pd_0 : parseMethodDescriptor "()V" = some ⟨[], none⟩ := by decide +kernel
theorem pd_1 : parseMethodDescriptor "(I)V" = some ⟨[.int], none⟩ := by decide +kernel
theorem pd_2 : parseMethodDescriptor "(II)I" = some ⟨[.int, .int], some .int⟩ := by decide +kernel
theorem pd_3 : parseMethodDescriptor "(Ljava/lang/Integer;)I" = some ⟨[(.object "java/lang/Integer")], some .int⟩ := by decide +kernel
theorem pd_4 : parseMethodDescriptor "(Ljava/lang/Object;)I" = some ⟨[(.object "java/lang/Object")], some .int⟩ := by decide +kernel
theorem pd_5 : parseMethodDescriptor "(Ljava/lang/Object;Ljava/lang/Object;)I" = some ⟨[(.object "java/lang/Object"), (.object "java/lang/Object")], some .int⟩ := by decide +kernel
theorem pd_6 : parseMethodDescriptor "(Ljava/lang/Object;Ljava/lang/Object;Ljava/util/TreeMap$Entry;)V" = some ⟨[(.object "java/lang/Object"), (.object "java/lang/Object"), (.object "java/util/TreeMap$Entry")], none⟩ := by decide +kernel
theorem pd_7 : parseMethodDescriptor "(Ljava/util/TreeMap$Entry;)V" = some ⟨[(.object "java/util/TreeMap$Entry")], none⟩ := by decide +kernel
theorem pd_8 : parseMethodDescriptor "(Ljava/lang/Object;Ljava/lang/Object;)V" = some ⟨[(.object "java/lang/Object"), (.object "java/lang/Object")], none⟩ := by decide +kernel
theorem pd_9 : parseMethodDescriptor "(Ljava/lang/Object;)Ljava/lang/Object;" = some ⟨[(.object "java/lang/Object")], some (.object "java/lang/Object")⟩ := by decide +kernel
theorem pd_10 : parseMethodDescriptor "(Ljava/lang/Object;Ljava/lang/Object;Ljava/util/TreeMap$Entry;Z)V" = some ⟨[(.object "java/lang/Object"), (.object "java/lang/Object"), (.object "java/util/TreeMap$Entry"), .boolean], none⟩ := by decide +kernel
theorem pd_11 : parseMethodDescriptor "(Ljava/lang/Object;Ljava/lang/Object;Z)Ljava/lang/Object;" = some ⟨[(.object "java/lang/Object"), (.object "java/lang/Object"), .boolean], some (.object "java/lang/Object")⟩ := by decide +kernel
theorem pd_12 : parseMethodDescriptor "(I)Ljava/lang/Integer;" = some ⟨[.int], some (.object "java/lang/Integer")⟩ := by decide +kernel
theorem pd_13 : parseMethodDescriptor "(Ljava/lang/Object;Ljava/lang/Object;)Ljava/lang/Object;" = some ⟨[(.object "java/lang/Object"), (.object "java/lang/Object")], some (.object "java/lang/Object")⟩ := by decide +kernel
theorem pd_14 : parseMethodDescriptor "(Ljava/lang/Object;)Ljava/util/TreeMap$Entry;" = some ⟨[(.object "java/lang/Object")], some (.object "java/util/TreeMap$Entry")⟩ := by decide +kernel
theorem pd_15 : parseMethodDescriptor "(Ljava/lang/Object;)Z" = some ⟨[(.object "java/lang/Object")], some .boolean⟩ := by decide +kernel
theorem pd_16 : parseMethodDescriptor "()I" = some ⟨[], some .int⟩ := by decide +kernel
theorem pd_17 : parseMethodDescriptor "()Z" = some ⟨[], some .boolean⟩ := by decide +kernel
theorem pd_18 : parseMethodDescriptor "(I)Ljava/lang/Object;" = some ⟨[.int], some (.object "java/lang/Object")⟩ := by decide +kernel
theorem pd_19 : parseMethodDescriptor "(I)Z" = some ⟨[.int], some .boolean⟩ := by decide +kernel
theorem pd_20 : parseMethodDescriptor "(ILjava/lang/Object;)V" = some ⟨[.int, (.object "java/lang/Object")], none⟩ := by decide +kernel
theorem pn_0 : plainName "java/lang/Number" = true := by first | (simp [plainName, overriddenIn]; done) | decide +kernel
theorem pn_1 : plainName "java/util/AbstractMap" = true := by first | (simp [plainName, overriddenIn]; done) | decide +kernel
theorem pn_2 : plainName "java/lang/Integer" = true := by first | (simp [plainName, overriddenIn]; done) | decide +kernel
theorem pn_3 : plainName "java/util/TreeMap" = true := by first | (simp [plainName, overriddenIn]; done) | decide +kernel
theorem pn_4 : plainName "java/util/Objects" = true := by first | (simp [plainName, overriddenIn]; done) | decide +kernel
theorem pn_5 : plainName "com/example/hookwright/hookwright/ConstructorArgumentValues" = true := by first | (simp [plainName, overriddenIn]; done) | decide +kernel
theorem pn_6 : plainName "java/util/TreeMap$Entry" = true := by first | (simp [plainName, overriddenIn]; done) | decide +kernel
theorem pn_7 : plainName "com/example/hookwright/hookwright/ConstructorArgumentValuesAddIndexedArgumentValuePinLaw" = true := by first | (simp [plainName, overriddenIn]; done) | decide +kernel
theorem d1_0 : decode jdk_33_method_22_code 0 = .ok (.iload_n 0, 1) := by decide +kernel
theorem d1_1 : decode jdk_33_method_22_code 1 = .ok (.bipush (-128), 2) := by decide +kernel
theorem d1_3 : decode jdk_33_method_22_code 3 = .ok (.if_icmp .lt 20, 3) := by decide +kernel
theorem d1_6 : decode jdk_33_method_22_code 6 = .ok (.iload_n 0, 1) := by decide +kernel
theorem d1_7 : decode jdk_33_method_22_code 7 = .ok (.getstatic 191, 3) := by decide +kernel
theorem d1_10 : decode jdk_33_method_22_code 10 = .ok (.if_icmp .gt 13, 3) := by decide +kernel
theorem d1_13 : decode jdk_33_method_22_code 13 = .ok (.getstatic 195, 3) := by decide +kernel
theorem d1_16 : decode jdk_33_method_22_code 16 = .ok (.iload_n 0, 1) := by decide +kernel
theorem d1_17 : decode jdk_33_method_22_code 17 = .ok (.sipush 128, 3) := by decide +kernel
theorem d1_20 : decode jdk_33_method_22_code 20 = .ok (.iadd, 1) := by decide +kernel
theorem d1_21 : decode jdk_33_method_22_code 21 = .ok (.aaload, 1) := by decide +kernel
theorem d1_22 : decode jdk_33_method_22_code 22 = .ok (.areturn, 1) := by decide +kernel
theorem d1_23 : decode jdk_33_method_22_code 23 = .ok (.new 1, 3) := by decide +kernel
theorem d1_26 : decode jdk_33_method_22_code 26 = .ok (.dup, 1) := by decide +kernel
theorem d1_27 : decode jdk_33_method_22_code 27 = .ok (.iload_n 0, 1) := by decide +kernel
theorem d1_28 : decode jdk_33_method_22_code 28 = .ok (.invokespecial 199, 3) := by decide +kernel
theorem d1_31 : decode jdk_33_method_22_code 31 = .ok (.areturn, 1) := by decide +kernel
theorem d2_0 : decode prog_22_method_1_code 0 = .ok (.aload_n 0, 1) := by decide +kernel
theorem d2_1 : decode prog_22_method_1_code 1 = .ok (.invokespecial 1, 3) := by decide +kernel
theorem d2_4 : decode prog_22_method_1_code 4 = .ok (.aload_n 0, 1) := by decide +kernel
theorem d2_5 : decode prog_22_method_1_code 5 = .ok (.new 7, 3) := by decide +kernel
theorem d2_8 : decode prog_22_method_1_code 8 = .ok (.dup, 1) := by decide +kernel
theorem d2_9 : decode prog_22_method_1_code 9 = .ok (.invokespecial 9, 3) := by decide +kernel
theorem d2_12 : decode prog_22_method_1_code 12 = .ok (.putfield 10, 3) := by decide +kernel
theorem d2_15 : decode prog_22_method_1_code 15 = .ok (.return_, 1) := by decide +kernel
theorem d4_0 : decode jdk_2729_method_1_code 0 = .ok (.aload_n 0, 1) := by decide +kernel
theorem d4_1 : decode jdk_2729_method_1_code 1 = .ok (.invokespecial 1, 3) := by decide +kernel
theorem d4_4 : decode jdk_2729_method_1_code 4 = .ok (.aload_n 0, 1) := by decide +kernel
theorem d4_5 : decode jdk_2729_method_1_code 5 = .ok (.iconst 0, 1) := by decide +kernel
theorem d4_6 : decode jdk_2729_method_1_code 6 = .ok (.putfield 7, 3) := by decide +kernel
theorem d4_9 : decode jdk_2729_method_1_code 9 = .ok (.aload_n 0, 1) := by decide +kernel
theorem d4_10 : decode jdk_2729_method_1_code 10 = .ok (.iconst 0, 1) := by decide +kernel
theorem d4_11 : decode jdk_2729_method_1_code 11 = .ok (.putfield 13, 3) := by decide +kernel
theorem d4_14 : decode jdk_2729_method_1_code 14 = .ok (.aload_n 0, 1) := by decide +kernel
theorem d4_15 : decode jdk_2729_method_1_code 15 = .ok (.aconst_null, 1) := by decide +kernel
theorem d4_16 : decode jdk_2729_method_1_code 16 = .ok (.putfield 16, 3) := by decide +kernel
theorem d4_19 : decode jdk_2729_method_1_code 19 = .ok (.return_, 1) := by decide +kernel
theorem d5_0 : decode jdk_71_method_1_code 0 = .ok (.aload_n 0, 1) := by decide +kernel
theorem d5_1 : decode jdk_71_method_1_code 1 = .ok (.invokespecial 1, 3) := by decide +kernel
theorem d5_4 : decode jdk_71_method_1_code 4 = .ok (.return_, 1) := by decide +kernel
theorem d6_0 : decode prog_22_method_2_code 0 = .ok (.iload_n 1, 1) := by decide +kernel
theorem d6_1 : decode prog_22_method_2_code 1 = .ok (.ifCond .ge 17, 3) := by decide +kernel
theorem d6_18 : decode prog_22_method_2_code 18 = .ok (.aload_n 0, 1) := by decide +kernel
theorem d6_19 : decode prog_22_method_2_code 19 = .ok (.getfield 10, 3) := by decide +kernel
theorem d6_22 : decode prog_22_method_2_code 22 = .ok (.iload_n 1, 1) := by decide +kernel
theorem d6_23 : decode prog_22_method_2_code 23 = .ok (.invokestatic 25, 3) := by decide +kernel
theorem d6_26 : decode prog_22_method_2_code 26 = .ok (.aload_n 2, 1) := by decide +kernel
theorem d6_27 : decode prog_22_method_2_code 27 = .ok (.invokeinterface 31 3, 5) := by decide +kernel
theorem d6_32 : decode prog_22_method_2_code 32 = .ok (.pop, 1) := by decide +kernel
theorem d6_33 : decode prog_22_method_2_code 33 = .ok (.return_, 1) := by decide +kernel
theorem d7_0 : decode jdk_2729_method_21_code 0 = .ok (.aload_n 0, 1) := by decide +kernel
theorem d7_1 : decode jdk_2729_method_21_code 1 = .ok (.aload_n 1, 1) := by decide +kernel
theorem d7_2 : decode jdk_2729_method_21_code 2 = .ok (.aload_n 2, 1) := by decide +kernel
theorem d7_3 : decode jdk_2729_method_21_code 3 = .ok (.iconst 1, 1) := by decide +kernel
theorem d7_4 : decode jdk_2729_method_21_code 4 = .ok (.invokevirtual 127, 3) := by decide +kernel
theorem d7_7 : decode jdk_2729_method_21_code 7 = .ok (.areturn, 1) := by decide +kernel
theorem d8_0 : decode jdk_2729_method_31_code 0 = .ok (.aload_n 0, 1) := by decide +kernel
theorem d8_1 : decode jdk_2729_method_31_code 1 = .ok (.getfield 101, 3) := by decide +kernel
theorem d8_4 : decode jdk_2729_method_31_code 4 = .ok (.astore 4, 2) := by decide +kernel
theorem d8_6 : decode jdk_2729_method_31_code 6 = .ok (.aload 4, 2) := by decide +kernel
theorem d8_8 : decode jdk_2729_method_31_code 8 = .ok (.ifnonnull 11, 3) := by decide +kernel
theorem d8_11 : decode jdk_2729_method_31_code 11 = .ok (.aload_n 0, 1) := by decide +kernel
theorem d8_12 : decode jdk_2729_method_31_code 12 = .ok (.aload_n 1, 1) := by decide +kernel
theorem d8_13 : decode jdk_2729_method_31_code 13 = .ok (.aload_n 2, 1) := by decide +kernel
theorem d8_14 : decode jdk_2729_method_31_code 14 = .ok (.invokevirtual 135, 3) := by decide +kernel
theorem d8_17 : decode jdk_2729_method_31_code 17 = .ok (.aconst_null, 1) := by decide +kernel
theorem d8_18 : decode jdk_2729_method_31_code 18 = .ok (.areturn, 1) := by decide +kernel
theorem d8_19 : decode jdk_2729_method_31_code 19 = .ok (.aload_n 0, 1) := by decide +kernel
theorem d8_20 : decode jdk_2729_method_31_code 20 = .ok (.getfield 16, 3) := by decide +kernel
theorem d8_23 : decode jdk_2729_method_31_code 23 = .ok (.astore 7, 2) := by decide +kernel
theorem d8_25 : decode jdk_2729_method_31_code 25 = .ok (.aload 7, 2) := by decide +kernel
theorem d8_27 : decode jdk_2729_method_31_code 27 = .ok (.ifnull 85, 3) := by decide +kernel
theorem d8_112 : decode jdk_2729_method_31_code 112 = .ok (.aload_n 1, 1) := by decide +kernel
theorem d8_113 : decode jdk_2729_method_31_code 113 = .ok (.invokestatic 95, 3) := by decide +kernel
theorem d8_116 : decode jdk_2729_method_31_code 116 = .ok (.pop, 1) := by decide +kernel
theorem d8_117 : decode jdk_2729_method_31_code 117 = .ok (.aload_n 1, 1) := by decide +kernel
theorem d8_118 : decode jdk_2729_method_31_code 118 = .ok (.checkcast 99, 3) := by decide +kernel
theorem d8_121 : decode jdk_2729_method_31_code 121 = .ok (.astore 8, 2) := by decide +kernel
theorem d8_123 : decode jdk_2729_method_31_code 123 = .ok (.aload 4, 2) := by decide +kernel
theorem d8_125 : decode jdk_2729_method_31_code 125 = .ok (.astore 6, 2) := by decide +kernel
theorem d8_127 : decode jdk_2729_method_31_code 127 = .ok (.aload 8, 2) := by decide +kernel
theorem d8_129 : decode jdk_2729_method_31_code 129 = .ok (.aload 4, 2) := by decide +kernel
theorem d8_131 : decode jdk_2729_method_31_code 131 = .ok (.getfield 105, 3) := by decide +kernel
theorem d8_134 : decode jdk_2729_method_31_code 134 = .ok (.invokeinterface 107 2, 5) := by decide +kernel
theorem d8_139 : decode jdk_2729_method_31_code 139 = .ok (.istore 5, 2) := by decide +kernel
theorem d8_141 : decode jdk_2729_method_31_code 141 = .ok (.iload 5, 2) := by decide +kernel
theorem d8_143 : decode jdk_2729_method_31_code 143 = .ok (.ifCond .ge 13, 3) := by decide +kernel
theorem d8_146 : decode jdk_2729_method_31_code 146 = .ok (.aload 4, 2) := by decide +kernel
theorem d8_148 : decode jdk_2729_method_31_code 148 = .ok (.getfield 111, 3) := by decide +kernel
theorem d8_151 : decode jdk_2729_method_31_code 151 = .ok (.astore 4, 2) := by decide +kernel
theorem d8_153 : decode jdk_2729_method_31_code 153 = .ok (.goto 43, 3) := by decide +kernel
theorem d8_156 : decode jdk_2729_method_31_code 156 = .ok (.iload 5, 2) := by decide +kernel
theorem d8_158 : decode jdk_2729_method_31_code 158 = .ok (.ifCond .le 13, 3) := by decide +kernel
theorem d8_161 : decode jdk_2729_method_31_code 161 = .ok (.aload 4, 2) := by decide +kernel
theorem d8_163 : decode jdk_2729_method_31_code 163 = .ok (.getfield 114, 3) := by decide +kernel
theorem d8_166 : decode jdk_2729_method_31_code 166 = .ok (.astore 4, 2) := by decide +kernel
theorem d8_168 : decode jdk_2729_method_31_code 168 = .ok (.goto 28, 3) := by decide +kernel
theorem d8_171 : decode jdk_2729_method_31_code 171 = .ok (.aload 4, 2) := by decide +kernel
theorem d8_173 : decode jdk_2729_method_31_code 173 = .ok (.getfield 58, 3) := by decide +kernel
theorem d8_176 : decode jdk_2729_method_31_code 176 = .ok (.astore 9, 2) := by decide +kernel
theorem d8_178 : decode jdk_2729_method_31_code 178 = .ok (.iload_n 3, 1) := by decide +kernel
theorem d8_179 : decode jdk_2729_method_31_code 179 = .ok (.ifCond .ne 8, 3) := by decide +kernel
theorem d8_187 : decode jdk_2729_method_31_code 187 = .ok (.aload 4, 2) := by decide +kernel
theorem d8_189 : decode jdk_2729_method_31_code 189 = .ok (.aload_n 2, 1) := by decide +kernel
theorem d8_190 : decode jdk_2729_method_31_code 190 = .ok (.putfield 58, 3) := by decide +kernel
theorem d8_193 : decode jdk_2729_method_31_code 193 = .ok (.aload 9, 2) := by decide +kernel
theorem d8_195 : decode jdk_2729_method_31_code 195 = .ok (.areturn, 1) := by decide +kernel
theorem d8_196 : decode jdk_2729_method_31_code 196 = .ok (.aload 4, 2) := by decide +kernel
theorem d8_198 : decode jdk_2729_method_31_code 198 = .ok (.ifnonnull (-75), 3) := by decide +kernel
theorem d8_201 : decode jdk_2729_method_31_code 201 = .ok (.aload_n 0, 1) := by decide +kernel
theorem d8_202 : decode jdk_2729_method_31_code 202 = .ok (.aload_n 1, 1) := by decide +kernel
theorem d8_203 : decode jdk_2729_method_31_code 203 = .ok (.aload_n 2, 1) := by decide +kernel
theorem d8_204 : decode jdk_2729_method_31_code 204 = .ok (.aload 6, 2) := by decide +kernel
theorem d8_206 : decode jdk_2729_method_31_code 206 = .ok (.iload 5, 2) := by decide +kernel
theorem d8_208 : decode jdk_2729_method_31_code 208 = .ok (.ifCond .ge 7, 3) := by decide +kernel
theorem d8_211 : decode jdk_2729_method_31_code 211 = .ok (.iconst 1, 1) := by decide +kernel
theorem d8_212 : decode jdk_2729_method_31_code 212 = .ok (.goto 4, 3) := by decide +kernel
theorem d8_215 : decode jdk_2729_method_31_code 215 = .ok (.iconst 0, 1) := by decide +kernel
theorem d8_216 : decode jdk_2729_method_31_code 216 = .ok (.invokevirtual 139, 3) := by decide +kernel
theorem d8_219 : decode jdk_2729_method_31_code 219 = .ok (.aconst_null, 1) := by decide +kernel
theorem d8_220 : decode jdk_2729_method_31_code 220 = .ok (.areturn, 1) := by decide +kernel
theorem d9_0 : decode jdk_2729_method_30_code 0 = .ok (.aload_n 0, 1) := by decide +kernel
theorem d9_1 : decode jdk_2729_method_30_code 1 = .ok (.aload_n 1, 1) := by decide +kernel
theorem d9_2 : decode jdk_2729_method_30_code 2 = .ok (.aload_n 1, 1) := by decide +kernel
theorem d9_3 : decode jdk_2729_method_30_code 3 = .ok (.invokevirtual 123, 3) := by decide +kernel
theorem d9_6 : decode jdk_2729_method_30_code 6 = .ok (.pop, 1) := by decide +kernel
theorem d9_7 : decode jdk_2729_method_30_code 7 = .ok (.aload_n 0, 1) := by decide +kernel
theorem d9_8 : decode jdk_2729_method_30_code 8 = .ok (.new 59, 3) := by decide +kernel
theorem d9_11 : decode jdk_2729_method_30_code 11 = .ok (.dup, 1) := by decide +kernel
theorem d9_12 : decode jdk_2729_method_30_code 12 = .ok (.aload_n 1, 1) := by decide +kernel
theorem d9_13 : decode jdk_2729_method_30_code 13 = .ok (.aload_n 2, 1) := by decide +kernel
theorem d9_14 : decode jdk_2729_method_30_code 14 = .ok (.aconst_null, 1) := by decide +kernel
theorem d9_15 : decode jdk_2729_method_30_code 15 = .ok (.invokespecial 167, 3) := by decide +kernel
theorem d9_18 : decode jdk_2729_method_30_code 18 = .ok (.putfield 101, 3) := by decide +kernel
theorem d9_21 : decode jdk_2729_method_30_code 21 = .ok (.aload_n 0, 1) := by decide +kernel
theorem d9_22 : decode jdk_2729_method_30_code 22 = .ok (.iconst 1, 1) := by decide +kernel
theorem d9_23 : decode jdk_2729_method_30_code 23 = .ok (.putfield 7, 3) := by decide +kernel
theorem d9_26 : decode jdk_2729_method_30_code 26 = .ok (.aload_n 0, 1) := by decide +kernel
theorem d9_27 : decode jdk_2729_method_30_code 27 = .ok (.dup, 1) := by decide +kernel
theorem d9_28 : decode jdk_2729_method_30_code 28 = .ok (.getfield 13, 3) := by decide +kernel
theorem d9_31 : decode jdk_2729_method_30_code 31 = .ok (.iconst 1, 1) := by decide +kernel
theorem d9_32 : decode jdk_2729_method_30_code 32 = .ok (.iadd, 1) := by decide +kernel
theorem d9_33 : decode jdk_2729_method_30_code 33 = .ok (.putfield 13, 3) := by decide +kernel
theorem d9_36 : decode jdk_2729_method_30_code 36 = .ok (.return_, 1) := by decide +kernel
theorem d10_0 : decode jdk_2729_method_67_code 0 = .ok (.aload_n 0, 1) := by decide +kernel
theorem d10_1 : decode jdk_2729_method_67_code 1 = .ok (.getfield 16, 3) := by decide +kernel
theorem d10_4 : decode jdk_2729_method_67_code 4 = .ok (.ifnonnull 16, 3) := by decide +kernel
theorem d10_7 : decode jdk_2729_method_67_code 7 = .ok (.aload_n 1, 1) := by decide +kernel
theorem d10_8 : decode jdk_2729_method_67_code 8 = .ok (.checkcast 99, 3) := by decide +kernel
theorem d10_11 : decode jdk_2729_method_67_code 11 = .ok (.aload_n 2, 1) := by decide +kernel
theorem d10_12 : decode jdk_2729_method_67_code 12 = .ok (.invokeinterface 107 2, 5) := by decide +kernel
theorem d10_17 : decode jdk_2729_method_67_code 17 = .ok (.goto 14, 3) := by decide +kernel
theorem d10_31 : decode jdk_2729_method_67_code 31 = .ok (.ireturn, 1) := by decide +kernel
theorem d11_0 : decode jdk_33_method_63_code 0 = .ok (.aload_n 0, 1) := by decide +kernel
theorem d11_1 : decode jdk_33_method_63_code 1 = .ok (.aload_n 1, 1) := by decide +kernel
theorem d11_2 : decode jdk_33_method_63_code 2 = .ok (.checkcast 1, 3) := by decide +kernel
theorem d11_5 : decode jdk_33_method_63_code 5 = .ok (.invokevirtual 284, 3) := by decide +kernel
theorem d11_8 : decode jdk_33_method_63_code 8 = .ok (.ireturn, 1) := by decide +kernel
theorem d12_0 : decode jdk_33_method_39_code 0 = .ok (.aload_n 0, 1) := by decide +kernel
theorem d12_1 : decode jdk_33_method_39_code 1 = .ok (.getfield 205, 3) := by decide +kernel
theorem d12_4 : decode jdk_33_method_39_code 4 = .ok (.aload_n 1, 1) := by decide +kernel
theorem d12_5 : decode jdk_33_method_39_code 5 = .ok (.getfield 205, 3) := by decide +kernel
theorem d12_8 : decode jdk_33_method_39_code 8 = .ok (.invokestatic 259, 3) := by decide +kernel
theorem d12_11 : decode jdk_33_method_39_code 11 = .ok (.ireturn, 1) := by decide +kernel
theorem d13_0 : decode jdk_33_method_40_code 0 = .ok (.iload_n 0, 1) := by decide +kernel
theorem d13_1 : decode jdk_33_method_40_code 1 = .ok (.iload_n 1, 1) := by decide +kernel
theorem d13_2 : decode jdk_33_method_40_code 2 = .ok (.if_icmp .ge 7, 3) := by decide +kernel
theorem d13_5 : decode jdk_33_method_40_code 5 = .ok (.iconst (-1), 1) := by decide +kernel
theorem d13_6 : decode jdk_33_method_40_code 6 = .ok (.goto 13, 3) := by decide +kernel
theorem d13_9 : decode jdk_33_method_40_code 9 = .ok (.iload_n 0, 1) := by decide +kernel
theorem d13_10 : decode jdk_33_method_40_code 10 = .ok (.iload_n 1, 1) := by decide +kernel
theorem d13_11 : decode jdk_33_method_40_code 11 = .ok (.if_icmp .ne 7, 3) := by decide +kernel
theorem d13_14 : decode jdk_33_method_40_code 14 = .ok (.iconst 0, 1) := by decide +kernel
theorem d13_15 : decode jdk_33_method_40_code 15 = .ok (.goto 4, 3) := by decide +kernel
theorem d13_18 : decode jdk_33_method_40_code 18 = .ok (.iconst 1, 1) := by decide +kernel
theorem d13_19 : decode jdk_33_method_40_code 19 = .ok (.ireturn, 1) := by decide +kernel
theorem d14_0 : decode jdk_2736_method_1_code 0 = .ok (.aload_n 0, 1) := by decide +kernel
theorem d14_1 : decode jdk_2736_method_1_code 1 = .ok (.invokespecial 3, 3) := by decide +kernel
theorem d14_4 : decode jdk_2736_method_1_code 4 = .ok (.aload_n 0, 1) := by decide +kernel
theorem d14_5 : decode jdk_2736_method_1_code 5 = .ok (.iconst 1, 1) := by decide +kernel
theorem d14_6 : decode jdk_2736_method_1_code 6 = .ok (.putfield 9, 3) := by decide +kernel
theorem d14_9 : decode jdk_2736_method_1_code 9 = .ok (.aload_n 0, 1) := by decide +kernel
theorem d14_10 : decode jdk_2736_method_1_code 10 = .ok (.aload_n 1, 1) := by decide +kernel
theorem d14_11 : decode jdk_2736_method_1_code 11 = .ok (.putfield 15, 3) := by decide +kernel
theorem d14_14 : decode jdk_2736_method_1_code 14 = .ok (.aload_n 0, 1) := by decide +kernel
theorem d14_15 : decode jdk_2736_method_1_code 15 = .ok (.aload_n 2, 1) := by decide +kernel
theorem d14_16 : decode jdk_2736_method_1_code 16 = .ok (.putfield 19, 3) := by decide +kernel
theorem d14_19 : decode jdk_2736_method_1_code 19 = .ok (.aload_n 0, 1) := by decide +kernel
theorem d14_20 : decode jdk_2736_method_1_code 20 = .ok (.aload_n 3, 1) := by decide +kernel
theorem d14_21 : decode jdk_2736_method_1_code 21 = .ok (.putfield 22, 3) := by decide +kernel
theorem d14_24 : decode jdk_2736_method_1_code 24 = .ok (.return_, 1) := by decide +kernel
theorem d15_0 : decode jdk_31_method_10_code 0 = .ok (.aload_n 0, 1) := by decide +kernel
theorem d15_1 : decode jdk_31_method_10_code 1 = .ok (.ifnonnull 11, 3) := by decide +kernel
theorem d15_12 : decode jdk_31_method_10_code 12 = .ok (.aload_n 0, 1) := by decide +kernel
theorem d15_13 : decode jdk_31_method_10_code 13 = .ok (.areturn, 1) := by decide +kernel
theorem d16_0 : decode prog_22_method_5_code 0 = .ok (.aload_n 0, 1) := by decide +kernel
theorem d16_1 : decode prog_22_method_5_code 1 = .ok (.getfield 10, 3) := by decide +kernel
theorem d16_4 : decode prog_22_method_5_code 4 = .ok (.invokeinterface 45 1, 5) := by decide +kernel
theorem d16_9 : decode prog_22_method_5_code 9 = .ok (.ireturn, 1) := by decide +kernel
theorem d17_0 : decode jdk_2729_method_5_code 0 = .ok (.aload_n 0, 1) := by decide +kernel
theorem d17_1 : decode jdk_2729_method_5_code 1 = .ok (.getfield 7, 3) := by decide +kernel
theorem d17_4 : decode jdk_2729_method_5_code 4 = .ok (.ireturn, 1) := by decide +kernel
theorem d18_0 : decode prog_22_method_6_code 0 = .ok (.aload_n 0, 1) := by decide +kernel
theorem d18_1 : decode prog_22_method_6_code 1 = .ok (.getfield 10, 3) := by decide +kernel
theorem d18_4 : decode prog_22_method_6_code 4 = .ok (.invokeinterface 49 1, 5) := by decide +kernel
theorem d18_9 : decode prog_22_method_6_code 9 = .ok (.ireturn, 1) := by decide +kernel
theorem d19_0 : decode jdk_71_method_3_code 0 = .ok (.aload_n 0, 1) := by decide +kernel
theorem d19_1 : decode jdk_71_method_3_code 1 = .ok (.invokevirtual 19, 3) := by decide +kernel
theorem d19_4 : decode jdk_71_method_3_code 4 = .ok (.ifCond .ne 7, 3) := by decide +kernel
theorem d19_11 : decode jdk_71_method_3_code 11 = .ok (.iconst 0, 1) := by decide +kernel
theorem d19_12 : decode jdk_71_method_3_code 12 = .ok (.ireturn, 1) := by decide +kernel
theorem d20_0 : decode prog_22_method_4_code 0 = .ok (.aload_n 0, 1) := by decide +kernel
theorem d20_1 : decode prog_22_method_4_code 1 = .ok (.getfield 10, 3) := by decide +kernel
theorem d20_4 : decode prog_22_method_4_code 4 = .ok (.iload_n 1, 1) := by decide +kernel
theorem d20_5 : decode prog_22_method_4_code 5 = .ok (.invokestatic 25, 3) := by decide +kernel
theorem d20_8 : decode prog_22_method_4_code 8 = .ok (.invokeinterface 41 2, 5) := by decide +kernel
theorem d20_13 : decode prog_22_method_4_code 13 = .ok (.areturn, 1) := by decide +kernel
theorem d21_0 : decode jdk_2729_method_8_code 0 = .ok (.aload_n 0, 1) := by decide +kernel
theorem d21_1 : decode jdk_2729_method_8_code 1 = .ok (.aload_n 1, 1) := by decide +kernel
theorem d21_2 : decode jdk_2729_method_8_code 2 = .ok (.invokevirtual 50, 3) := by decide +kernel
theorem d21_5 : decode jdk_2729_method_8_code 5 = .ok (.astore_n 2, 1) := by decide +kernel
theorem d21_6 : decode jdk_2729_method_8_code 6 = .ok (.aload_n 2, 1) := by decide +kernel
theorem d21_7 : decode jdk_2729_method_8_code 7 = .ok (.ifnonnull 7, 3) := by decide +kernel
theorem d21_10 : decode jdk_2729_method_8_code 10 = .ok (.aconst_null, 1) := by decide +kernel
theorem d21_11 : decode jdk_2729_method_8_code 11 = .ok (.goto 7, 3) := by decide +kernel
theorem d21_14 : decode jdk_2729_method_8_code 14 = .ok (.aload_n 2, 1) := by decide +kernel
theorem d21_15 : decode jdk_2729_method_8_code 15 = .ok (.getfield 58, 3) := by decide +kernel
theorem d21_18 : decode jdk_2729_method_8_code 18 = .ok (.areturn, 1) := by decide +kernel
theorem d22_0 : decode jdk_2729_method_15_code 0 = .ok (.aload_n 0, 1) := by decide +kernel
theorem d22_1 : decode jdk_2729_method_15_code 1 = .ok (.getfield 16, 3) := by decide +kernel
theorem d22_4 : decode jdk_2729_method_15_code 4 = .ok (.ifnull 9, 3) := by decide +kernel
theorem d22_13 : decode jdk_2729_method_15_code 13 = .ok (.aload_n 1, 1) := by decide +kernel
theorem d22_14 : decode jdk_2729_method_15_code 14 = .ok (.invokestatic 95, 3) := by decide +kernel
theorem d22_17 : decode jdk_2729_method_15_code 17 = .ok (.pop, 1) := by decide +kernel
theorem d22_18 : decode jdk_2729_method_15_code 18 = .ok (.aload_n 1, 1) := by decide +kernel
theorem d22_19 : decode jdk_2729_method_15_code 19 = .ok (.checkcast 99, 3) := by decide +kernel
theorem d22_22 : decode jdk_2729_method_15_code 22 = .ok (.astore_n 2, 1) := by decide +kernel
theorem d22_23 : decode jdk_2729_method_15_code 23 = .ok (.aload_n 0, 1) := by decide +kernel
theorem d22_24 : decode jdk_2729_method_15_code 24 = .ok (.getfield 101, 3) := by decide +kernel
theorem d22_27 : decode jdk_2729_method_15_code 27 = .ok (.astore_n 3, 1) := by decide +kernel
theorem d22_28 : decode jdk_2729_method_15_code 28 = .ok (.aload_n 3, 1) := by decide +kernel
theorem d22_29 : decode jdk_2729_method_15_code 29 = .ok (.ifnull 46, 3) := by decide +kernel
theorem d22_32 : decode jdk_2729_method_15_code 32 = .ok (.aload_n 2, 1) := by decide +kernel
theorem d22_33 : decode jdk_2729_method_15_code 33 = .ok (.aload_n 3, 1) := by decide +kernel
theorem d22_34 : decode jdk_2729_method_15_code 34 = .ok (.getfield 105, 3) := by decide +kernel
theorem d22_37 : decode jdk_2729_method_15_code 37 = .ok (.invokeinterface 107 2, 5) := by decide +kernel
theorem d22_42 : decode jdk_2729_method_15_code 42 = .ok (.istore 4, 2) := by decide +kernel
theorem d22_44 : decode jdk_2729_method_15_code 44 = .ok (.iload 4, 2) := by decide +kernel
theorem d22_46 : decode jdk_2729_method_15_code 46 = .ok (.ifCond .ge 11, 3) := by decide +kernel
theorem d22_49 : decode jdk_2729_method_15_code 49 = .ok (.aload_n 3, 1) := by decide +kernel
theorem d22_50 : decode jdk_2729_method_15_code 50 = .ok (.getfield 111, 3) := by decide +kernel
theorem d22_53 : decode jdk_2729_method_15_code 53 = .ok (.astore_n 3, 1) := by decide +kernel
theorem d22_54 : decode jdk_2729_method_15_code 54 = .ok (.goto 18, 3) := by decide +kernel
theorem d22_57 : decode jdk_2729_method_15_code 57 = .ok (.iload 4, 2) := by decide +kernel
theorem d22_59 : decode jdk_2729_method_15_code 59 = .ok (.ifCond .le 11, 3) := by decide +kernel
theorem d22_62 : decode jdk_2729_method_15_code 62 = .ok (.aload_n 3, 1) := by decide +kernel
theorem d22_63 : decode jdk_2729_method_15_code 63 = .ok (.getfield 114, 3) := by decide +kernel
theorem d22_66 : decode jdk_2729_method_15_code 66 = .ok (.astore_n 3, 1) := by decide +kernel
theorem d22_67 : decode jdk_2729_method_15_code 67 = .ok (.goto 5, 3) := by decide +kernel
theorem d22_70 : decode jdk_2729_method_15_code 70 = .ok (.aload_n 3, 1) := by decide +kernel
theorem d22_71 : decode jdk_2729_method_15_code 71 = .ok (.areturn, 1) := by decide +kernel
theorem d22_72 : decode jdk_2729_method_15_code 72 = .ok (.goto (-44), 3) := by decide +kernel
theorem d22_75 : decode jdk_2729_method_15_code 75 = .ok (.aconst_null, 1) := by decide +kernel
theorem d22_76 : decode jdk_2729_method_15_code 76 = .ok (.areturn, 1) := by decide +kernel
theorem d23_0 : decode prog_22_method_3_code 0 = .ok (.aload_n 0, 1) := by decide +kernel
theorem d23_1 : decode prog_22_method_3_code 1 = .ok (.getfield 10, 3) := by decide +kernel
theorem d23_4 : decode prog_22_method_3_code 4 = .ok (.iload_n 1, 1) := by decide +kernel
theorem d23_5 : decode prog_22_method_3_code 5 = .ok (.invokestatic 25, 3) := by decide +kernel
theorem d23_8 : decode prog_22_method_3_code 8 = .ok (.invokeinterface 37 2, 5) := by decide +kernel
theorem d23_13 : decode prog_22_method_3_code 13 = .ok (.ireturn, 1) := by decide +kernel
theorem d24_0 : decode jdk_2729_method_6_code 0 = .ok (.aload_n 0, 1) := by decide +kernel
theorem d24_1 : decode jdk_2729_method_6_code 1 = .ok (.aload_n 1, 1) := by decide +kernel
theorem d24_2 : decode jdk_2729_method_6_code 2 = .ok (.invokevirtual 50, 3) := by decide +kernel
theorem d24_5 : decode jdk_2729_method_6_code 5 = .ok (.ifnull 7, 3) := by decide +kernel
theorem d24_8 : decode jdk_2729_method_6_code 8 = .ok (.iconst 1, 1) := by decide +kernel
theorem d24_9 : decode jdk_2729_method_6_code 9 = .ok (.goto 4, 3) := by decide +kernel
theorem d24_12 : decode jdk_2729_method_6_code 12 = .ok (.iconst 0, 1) := by decide +kernel
theorem d24_13 : decode jdk_2729_method_6_code 13 = .ok (.ireturn, 1) := by decide +kernel
theorem d25_0 : decode jdk_2729_method_29_code 0 = .ok (.new 59, 3) := by decide +kernel
theorem d25_3 : decode jdk_2729_method_29_code 3 = .ok (.dup, 1) := by decide +kernel
theorem d25_4 : decode jdk_2729_method_29_code 4 = .ok (.aload_n 1, 1) := by decide +kernel
theorem d25_5 : decode jdk_2729_method_29_code 5 = .ok (.aload_n 2, 1) := by decide +kernel
theorem d25_6 : decode jdk_2729_method_29_code 6 = .ok (.aload_n 3, 1) := by decide +kernel
theorem d25_7 : decode jdk_2729_method_29_code 7 = .ok (.invokespecial 167, 3) := by decide +kernel
theorem d25_10 : decode jdk_2729_method_29_code 10 = .ok (.astore 5, 2) := by decide +kernel
theorem d25_12 : decode jdk_2729_method_29_code 12 = .ok (.iload 4, 2) := by decide +kernel
theorem d25_14 : decode jdk_2729_method_29_code 14 = .ok (.ifCond .eq 12, 3) := by decide +kernel
theorem d25_17 : decode jdk_2729_method_29_code 17 = .ok (.aload_n 3, 1) := by decide +kernel
theorem d25_18 : decode jdk_2729_method_29_code 18 = .ok (.aload 5, 2) := by decide +kernel
theorem d25_20 : decode jdk_2729_method_29_code 20 = .ok (.putfield 111, 3) := by decide +kernel
theorem d25_23 : decode jdk_2729_method_29_code 23 = .ok (.goto 9, 3) := by decide +kernel
theorem d25_26 : decode jdk_2729_method_29_code 26 = .ok (.aload_n 3, 1) := by decide +kernel
theorem d25_27 : decode jdk_2729_method_29_code 27 = .ok (.aload 5, 2) := by decide +kernel
theorem d25_29 : decode jdk_2729_method_29_code 29 = .ok (.putfield 114, 3) := by decide +kernel
theorem d25_32 : decode jdk_2729_method_29_code 32 = .ok (.aload_n 0, 1) := by decide +kernel
theorem d25_33 : decode jdk_2729_method_29_code 33 = .ok (.aload 5, 2) := by decide +kernel
theorem d25_35 : decode jdk_2729_method_29_code 35 = .ok (.invokevirtual 170, 3) := by decide +kernel
theorem d25_38 : decode jdk_2729_method_29_code 38 = .ok (.aload_n 0, 1) := by decide +kernel
theorem d25_39 : decode jdk_2729_method_29_code 39 = .ok (.dup, 1) := by decide +kernel
theorem d25_40 : decode jdk_2729_method_29_code 40 = .ok (.getfield 7, 3) := by decide +kernel
theorem d25_43 : decode jdk_2729_method_29_code 43 = .ok (.iconst 1, 1) := by decide +kernel
theorem d25_44 : decode jdk_2729_method_29_code 44 = .ok (.iadd, 1) := by decide +kernel
theorem d25_45 : decode jdk_2729_method_29_code 45 = .ok (.putfield 7, 3) := by decide +kernel
theorem d25_48 : decode jdk_2729_method_29_code 48 = .ok (.aload_n 0, 1) := by decide +kernel
theorem d25_49 : decode jdk_2729_method_29_code 49 = .ok (.dup, 1) := by decide +kernel
theorem d25_50 : decode jdk_2729_method_29_code 50 = .ok (.getfield 13, 3) := by decide +kernel
theorem d25_53 : decode jdk_2729_method_29_code 53 = .ok (.iconst 1, 1) := by decide +kernel
theorem d25_54 : decode jdk_2729_method_29_code 54 = .ok (.iadd, 1) := by decide +kernel
theorem d25_55 : decode jdk_2729_method_29_code 55 = .ok (.putfield 13, 3) := by decide +kernel
theorem d25_58 : decode jdk_2729_method_29_code 58 = .ok (.return_, 1) := by decide +kernel
theorem d26_0 : decode jdk_2729_method_83_code 0 = .ok (.aload_n 1, 1) := by decide +kernel
theorem d26_1 : decode jdk_2729_method_83_code 1 = .ok (.iconst 0, 1) := by decide +kernel
theorem d26_2 : decode jdk_2729_method_83_code 2 = .ok (.putfield 290, 3) := by decide +kernel
theorem d26_5 : decode jdk_2729_method_83_code 5 = .ok (.aload_n 1, 1) := by decide +kernel
theorem d26_6 : decode jdk_2729_method_83_code 6 = .ok (.ifnull 252, 3) := by decide +kernel
theorem d26_9 : decode jdk_2729_method_83_code 9 = .ok (.aload_n 1, 1) := by decide +kernel
theorem d26_10 : decode jdk_2729_method_83_code 10 = .ok (.aload_n 0, 1) := by decide +kernel
theorem d26_11 : decode jdk_2729_method_83_code 11 = .ok (.getfield 101, 3) := by decide +kernel
theorem d26_14 : decode jdk_2729_method_83_code 14 = .ok (.if_acmp .eq 244, 3) := by decide +kernel
theorem d26_17 : decode jdk_2729_method_83_code 17 = .ok (.aload_n 1, 1) := by decide +kernel
theorem d26_18 : decode jdk_2729_method_83_code 18 = .ok (.getfield 124, 3) := by decide +kernel
theorem d26_21 : decode jdk_2729_method_83_code 21 = .ok (.getfield 290, 3) := by decide +kernel
theorem d26_24 : decode jdk_2729_method_83_code 24 = .ok (.ifCond .ne 234, 3) := by decide +kernel
theorem d26_258 : decode jdk_2729_method_83_code 258 = .ok (.aload_n 0, 1) := by decide +kernel
theorem d26_259 : decode jdk_2729_method_83_code 259 = .ok (.getfield 101, 3) := by decide +kernel
theorem d26_262 : decode jdk_2729_method_83_code 262 = .ok (.iconst 1, 1) := by decide +kernel
theorem d26_263 : decode jdk_2729_method_83_code 263 = .ok (.putfield 290, 3) := by decide +kernel
theorem d26_266 : decode jdk_2729_method_83_code 266 = .ok (.return_, 1) := by decide +kernel
theorem d27_0 : decode jdk_33_method_23_code 0 = .ok (.aload_n 0, 1) := by decide +kernel
theorem d27_1 : decode jdk_33_method_23_code 1 = .ok (.invokespecial 202, 3) := by decide +kernel
theorem d27_4 : decode jdk_33_method_23_code 4 = .ok (.aload_n 0, 1) := by decide +kernel
theorem d27_5 : decode jdk_33_method_23_code 5 = .ok (.iload_n 1, 1) := by decide +kernel
theorem d27_6 : decode jdk_33_method_23_code 6 = .ok (.putfield 205, 3) := by decide +kernel
theorem d27_9 : decode jdk_33_method_23_code 9 = .ok (.return_, 1) := by decide +kernel
theorem d28_0 : decode jdk_18_method_1_code 0 = .ok (.aload_n 0, 1) := by decide +kernel
theorem d28_1 : decode jdk_18_method_1_code 1 = .ok (.invokespecial 1, 3) := by decide +kernel
theorem d28_4 : decode jdk_18_method_1_code 4 = .ok (.return_, 1) := by decide +kernel
abbrev own_rN : Room := { frames := 1, cells := 0, slots := 0, locals := 12 }
abbrev own_rII : Room := { frames := 2, cells := 0, slots := 0, locals := 24 }
abbrev own_rVO : Room := { frames := 3, cells := 1, slots := 1, locals := 38 }
abbrev own_r0 : Room := { frames := 0, cells := 0, slots := 0, locals := 0 }
abbrev own_rC1 : Room := { frames := 1, cells := 0, slots := 0, locals := 13 }
abbrev own_rC2 : Room := { frames := 2, cells := 0, slots := 0, locals := 26 }
abbrev own_rTC : Room := { frames := 3, cells := 0, slots := 0, locals := 39 }
abbrev own_rAE : Room := { frames := 4, cells := 1, slots := 6, locals := 53 }
abbrev own_rFX : Room := { frames := 0, cells := 0, slots := 0, locals := 0 }
abbrev own_rAD : Room := { frames := 2, cells := 1, slots := 6, locals := 40 }
abbrev own_rP3 : Room := { frames := 6, cells := 1, slots := 6, locals := 80 }
abbrev own_rP2 : Room := { frames := 7, cells := 1, slots := 6, locals := 110 }
abbrev own_rAI : Room := { frames := 8, cells := 2, slots := 7, locals := 130 }
set_option maxRecDepth 65536 in
set_option maxHeartbeats 40000000 in
theorem own_num (l : Launch) (Z : State) (a0 : Array Value) (hw : ∀ d ∈ tables_1, d.before a0 Z = true) (a : Nat) (h0 : Heap) (n0 : Nat)  :
    Ctr l Z (⟨"java/lang/Number", "<init>", "()V"⟩ : MethodName) jdk_18_method_1_code 1 none [] own_rN #[(.ref a)] h0 (fun v h L => v = none ∧ L = [] ∧ h = h0) := by
  refine Ctr.intro pn_0 #[.val (.ref a)] (fun m => by first | rfl | (simp [entryFrame, mkF, argsToLocals, Value.category]; done)) ?_
  intro p e s m below meth c T hx hby hml hown hnm hret hlk hZ X eT
  have hown : s.vm.findClass "java/lang/Number" = some m.cls := hown
  have N := Fr.nil n0
  show Gl p e below s _ _ _ (T.setTop (mkF m 0 #[.val (.ref a)] []))
  refine Gl.by (fun t_ k_ => XS.aloadN X.here hx rfl (hb hby d28_0) rfl rfl k_) ?_
  show Gl p e below s _ _ _ (T.setTop (mkF m 1 #[.val (.ref a)] [(.ref a)]))
  obtain ⟨T, X, eT, st⟩ := initO X hx hZ hown (hw _ (List.mem_of_getElem? (i := 199) rfl)) (hw _ (List.mem_of_getElem? (i := 15) rfl)) (hw _ (List.mem_of_getElem? (i := 16) rfl)) eT (g := (mkF m 1 #[.val (.ref a)] [(.ref a)])) rfl (by rw [hml]; rfl) rfl (hb hby d28_1) (by decide) (W := 0) (by show 2 * 0 + _ ≤ _; exact Nat.le_of_eq rfl) (by decide)
  refine Gl.by st ?_
  show Gl p e below s _ _ _ (T.setTop (mkF m 4 #[.val (.ref a)] []))
  exact Gl.retV X hx hlk hret (hb hby d28_4) (by decide) (by decide) ⟨rfl, rfl, eT⟩
set_option maxRecDepth 65536 in
set_option maxHeartbeats 40000000 in
theorem own_abm (l : Launch) (Z : State) (a0 : Array Value) (hw : ∀ d ∈ tables_1, d.before a0 Z = true) (a : Nat) (h0 : Heap) (n0 : Nat)  :
    Ctr l Z (⟨"java/util/AbstractMap", "<init>", "()V"⟩ : MethodName) jdk_71_method_1_code 1 none [] own_rN #[(.ref a)] h0 (fun v h L => v = none ∧ L = [] ∧ h = h0) := by
  refine Ctr.intro pn_1 #[.val (.ref a)] (fun m => by first | rfl | (simp [entryFrame, mkF, argsToLocals, Value.category]; done)) ?_
  intro p e s m below meth c T hx hby hml hown hnm hret hlk hZ X eT
  have hown : s.vm.findClass "java/util/AbstractMap" = some m.cls := hown
  have N := Fr.nil n0
  show Gl p e below s _ _ _ (T.setTop (mkF m 0 #[.val (.ref a)] []))
  refine Gl.by (fun t_ k_ => XS.aloadN X.here hx rfl (hb hby d5_0) rfl rfl k_) ?_
  show Gl p e below s _ _ _ (T.setTop (mkF m 1 #[.val (.ref a)] [(.ref a)]))
  obtain ⟨T, X, eT, st⟩ := initO X hx hZ hown (hw _ (List.mem_of_getElem? (i := 29) rfl)) (hw _ (List.mem_of_getElem? (i := 15) rfl)) (hw _ (List.mem_of_getElem? (i := 16) rfl)) eT (g := (mkF m 1 #[.val (.ref a)] [(.ref a)])) rfl (by rw [hml]; rfl) rfl (hb hby d5_1) (by decide) (W := 0) (by show 2 * 0 + _ ≤ _; exact Nat.le_of_eq rfl) (by decide)
  refine Gl.by st ?_
  show Gl p e below s _ _ _ (T.setTop (mkF m 4 #[.val (.ref a)] []))
  exact Gl.retV X hx hlk hret (hb hby d5_4) (by decide) (by decide) ⟨rfl, rfl, eT⟩
set_option maxRecDepth 65536 in
set_option maxHeartbeats 40000000 in
theorem own_inti (l : Launch) (Z : State) (a0 : Array Value) (hw : ∀ d ∈ tables_1, d.before a0 Z = true) (a : Nat) (i : Int32) (h0 : Heap) (n0 : Nat) (Z0 : n0 ≤ a) (E : Exa Z h0 a "java/lang/Integer") (F : Fld Z h0 a "java/lang/Integer" "value" "I" (.int (0 : Int32))) :
    Ctr l Z (⟨"java/lang/Integer", "<init>", "(I)V"⟩ : MethodName) jdk_33_method_23_code 2 none [] own_rII #[(.ref a), (.int i)] h0 (fun v h L => v = none ∧ Fr n0 L ∧ Keep h0 h [a] ∧ IntO Z h a i) := by
  refine Ctr.intro pn_2 #[.val (.ref a), .val (.int i)] (fun m => by first | rfl | (simp [entryFrame, mkF, argsToLocals, Value.category]; done)) ?_
  intro p e s m below meth c T hx hby hml hown hnm hret hlk hZ X eT
  have hown : s.vm.findClass "java/lang/Integer" = some m.cls := hown
  have N := Fr.nil n0
  show Gl p e below s _ _ _ (T.setTop (mkF m 0 #[.val (.ref a), .val (.int i)] []))
  refine Gl.by (fun t_ k_ => XS.aloadN X.here hx rfl (hb hby d27_0) rfl rfl k_) ?_
  show Gl p e below s _ _ _ (T.setTop (mkF m 1 #[.val (.ref a), .val (.int i)] [(.ref a)]))
  refine Gl.spec X hx hZ rfl hown (hw _ (List.mem_of_getElem? (i := 193) rfl)) (hw _ (List.mem_of_getElem? (i := 194) rfl)) (hw _ (List.mem_of_getElem? (i := 198) rfl)) (by decide) (W := 0) (backC (own_num l Z a0 hw a h0 n0) hZ (hw _ (List.mem_of_getElem? (i := 198) rfl)) (hw _ (List.mem_of_getElem? (i := 197) rfl)) (by decide) (by decide)) eT (hb hby d27_1) (by rw [hml]; rfl) a [] [] (lenOf pd_0 rfl) rfl rfl (Nat.le_of_eq rfl) (by decide) (by decide) ?_
  intro v T L X hq
  obtain ⟨rfl, rfl, eT⟩ := hq
  have N := Fr.app N (Fr.nil n0)
  show Gl p e below s _ _ _ (T.setTop (mkF m 4 #[.val (.ref a), .val (.int i)] []))
  refine Gl.by (fun t_ k_ => XS.aloadN X.here hx rfl (hb hby d27_4) rfl rfl k_) ?_
  show Gl p e below s _ _ _ (T.setTop (mkF m 5 #[.val (.ref a), .val (.int i)] [(.ref a)]))
  refine Gl.by (fun t_ k_ => XS.iloadN X.here hx rfl (hb hby d27_5) rfl k_) ?_
  show Gl p e below s _ _ _ (T.setTop (mkF m 6 #[.val (.ref a), .val (.int i)] [(.int i), (.ref a)]))
  obtain ⟨T, h1, X, eT, W1, st⟩ := putF X hx hZ hown (host := "") (Or.inl (hw _ (List.mem_of_getElem? (i := 87) rfl))) Via.refl eT F E (Or.inr ⟨(hw _ (List.mem_of_getElem? (i := 88) rfl)), rfl, hnm⟩) (hw _ (List.mem_of_getElem? (i := 189) rfl)) (ty := .int) (by decide) rfl rfl (g := (mkF m 6 #[.val (.ref a), .val (.int i)] [(.int i), (.ref a)])) rfl rfl (hb hby d27_6)
  have F1_value : Fld Z h1 a "java/lang/Integer" "value" "I" (.int i) := Fld.same W1 F
  have sz1 := (Keep.of_wr W1).1
  have N := Fr.snoc X N (by omega)
  refine Gl.by st ?_
  show Gl p e below s _ _ _ (T.setTop (mkF m 9 #[.val (.ref a), .val (.int i)] []))
  refine Gl.retV X hx hlk hret (hb hby d27_9) (by decide) (by decide) ?_
  rw [eT]
  exact ⟨rfl, N, ((Keep.refl h0 [a]).wr W1 (Or.inl (by simp))), (E.wr W1), F1_value⟩
set_option maxRecDepth 65536 in
set_option maxHeartbeats 40000000 in
theorem own_vof (l : Launch) (Z : State) (a0 : Array Value) (hw : ∀ d ∈ tables_1, d.before a0 Z = true) (i : Int32) (h0 : Heap) (n0 : Nat) (Z0 : n0 ≤ h0.size) (C : ICok Z) (O : Old Z n0 h0) :
    Ctr l Z (⟨"java/lang/Integer", "valueOf", "(I)Ljava/lang/Integer;"⟩ : MethodName) jdk_33_method_22_code 1 (some (.object "java/lang/Integer")) [] own_rVO #[(.int i)] h0 (fun v h L => Fr n0 L ∧ Keep h0 h [] ∧ ∃ k : Nat, v = some (.ref k) ∧ IntO Z h k i) := by
  refine Ctr.intro pn_2 #[.val (.int i)] (fun m => by first | rfl | (simp [entryFrame, mkF, argsToLocals, Value.category]; done)) ?_
  intro p e s m below meth c T hx hby hml hown hnm hret hlk hZ X eT
  have hown : s.vm.findClass "java/lang/Integer" = some m.cls := hown
  have N := Fr.nil n0
  obtain ⟨arr, cl, Sh, Sc, Ar, hc⟩ := C
  have j23 : ∀  (T : State) (locs : List Loc) (_ : Stand p l e own_rVO s m #[(.int i)] below meth c T locs 0 0) (_ : Fr n0 locs) (_ : T.heap = h0), Gl p e below s own_rVO.cells own_rVO.slots (fun v h L => Fr n0 L ∧ Keep h0 h [] ∧ ∃ k : Nat, v = some (.ref k) ∧ IntO Z h k i) (T.setTop (mkF m 23 #[.val (.int i)] [])) := by
    intro  T locs X N eT
    obtain ⟨T, h1, X, eT, E1, A1, D1, -, st⟩ := newO X hx hZ hown (hw _ (List.mem_of_getElem? (i := 80) rfl)) (hw _ (List.mem_of_getElem? (i := 189) rfl)) (hw _ (List.mem_of_getElem? (i := 3) rfl)) eT (g := (mkF m 23 #[.val (.int i)] [])) rfl (hb hby d1_23) (by decide) (by decide)
    obtain ⟨b, g1⟩ : ∃ z, z = h0.size := ⟨_, rfl⟩
    rw [← g1] at A1 D1 st
    have sz1 := E1.1
    have lt1 : b < h1.size := A1.lt
    refine Gl.by st ?_
    have F1_value : Fld Z h1 b "java/lang/Integer" "value" "I" (.int (0 : Int32)) := D1 (Or.inr (hw _ (List.mem_of_getElem? (i := 88) rfl))) (ty := .int) (by decide)
    show Gl p e below s own_rVO.cells own_rVO.slots (fun v h L => Fr n0 L ∧ Keep h0 h [] ∧ ∃ k : Nat, v = some (.ref k) ∧ IntO Z h k i) (T.setTop (mkF m 26 #[.val (.int i)] [(.ref b)]))
    refine Gl.by (fun t_ k_ => XS.dup X.here hx rfl (hb hby d1_26) rfl rfl k_) ?_
    show Gl p e below s own_rVO.cells own_rVO.slots (fun v h L => Fr n0 L ∧ Keep h0 h [] ∧ ∃ k : Nat, v = some (.ref k) ∧ IntO Z h k i) (T.setTop (mkF m 27 #[.val (.int i)] [(.ref b), (.ref b)]))
    refine Gl.by (fun t_ k_ => XS.iloadN X.here hx rfl (hb hby d1_27) rfl k_) ?_
    show Gl p e below s own_rVO.cells own_rVO.slots (fun v h L => Fr n0 L ∧ Keep h0 h [] ∧ ∃ k : Nat, v = some (.ref k) ∧ IntO Z h k i) (T.setTop (mkF m 28 #[.val (.int i)] [(.int i), (.ref b), (.ref b)]))
    refine Gl.spec X hx hZ rfl hown (hw _ (List.mem_of_getElem? (i := 190) rfl)) (hw _ (List.mem_of_getElem? (i := 191) rfl)) (hw _ (List.mem_of_getElem? (i := 192) rfl)) (by decide) (W := 1) (backC (own_inti l Z a0 hw b i h1 n0 (by omega) A1 F1_value) hZ (hw _ (List.mem_of_getElem? (i := 192) rfl)) (hw _ (List.mem_of_getElem? (i := 3) rfl)) (by decide) (by decide)) eT (hb hby d1_28) (by rw [hml]; rfl) b [(.int i)] [(.ref b)] (lenOf pd_1 rfl) rfl rfl (Nat.le_of_eq rfl) (by decide) (by decide) ?_
    intro v T L X hq
    obtain ⟨rfl, NQ, K2, F2⟩ := hq
    have N := Fr.app N NQ
    obtain ⟨h2, eT⟩ : ∃ z, T.heap = z := ⟨_, rfl⟩
    rw [eT] at K2 F2
    have sz2 := K2.1
    show Gl p e below s own_rVO.cells own_rVO.slots (fun v h L => Fr n0 L ∧ Keep h0 h [] ∧ ∃ k : Nat, v = some (.ref k) ∧ IntO Z h k i) (T.setTop (mkF m 31 #[.val (.int i)] [(.ref b)]))
    refine Gl.retA X hx hlk hret rfl rfl (hb hby d1_31) (by decide) (by decide) ?_
    rw [eT]
    exact ⟨N, (((Keep.refl h0 []).ext E1).trans K2 (allS (Or.inr (by omega)) all0)), b, rfl, F2⟩
  show Gl p e below s own_rVO.cells own_rVO.slots (fun v h L => Fr n0 L ∧ Keep h0 h [] ∧ ∃ k : Nat, v = some (.ref k) ∧ IntO Z h k i) (T.setTop (mkF m 0 #[.val (.int i)] []))
  refine Gl.by (fun t_ k_ => XS.iloadN X.here hx rfl (hb hby d1_0) rfl k_) ?_
  show Gl p e below s own_rVO.cells own_rVO.slots (fun v h L => Fr n0 L ∧ Keep h0 h [] ∧ ∃ k : Nat, v = some (.ref k) ∧ IntO Z h k i) (T.setTop (mkF m 1 #[.val (.int i)] [(.int i)]))
  refine Gl.by (fun t_ k_ => XS.bipush X.here hx rfl (hb hby d1_1) k_) ?_
  show Gl p e below s own_rVO.cells own_rVO.slots (fun v h L => Fr n0 L ∧ Keep h0 h [] ∧ ∃ k : Nat, v = some (.ref k) ∧ IntO Z h k i) (T.setTop (mkF m 3 #[.val (.int i)] [(.int (-128 : Int32)), (.int i)]))
  by_cases c1 : i < (-128 : Int32)
  · refine Gl.by (fun t_ k_ => XS.icmpYes X.here hx rfl (pc0 := 3) (pc' := 23) rfl (hb hby d1_3) rfl (tlt c1).1 (by decide) (by decide) k_) ?_
    show Gl p e below s own_rVO.cells own_rVO.slots (fun v h L => Fr n0 L ∧ Keep h0 h [] ∧ ∃ k : Nat, v = some (.ref k) ∧ IntO Z h k i) (T.setTop (mkF m 23 #[.val (.int i)] []))
    exact j23 T _ X N eT
  · refine Gl.by (fun t_ k_ => XS.icmpNo X.here hx rfl (hb hby d1_3) rfl (flt c1).1 k_) ?_
    show Gl p e below s own_rVO.cells own_rVO.slots (fun v h L => Fr n0 L ∧ Keep h0 h [] ∧ ∃ k : Nat, v = some (.ref k) ∧ IntO Z h k i) (T.setTop (mkF m 6 #[.val (.int i)] []))
    refine Gl.by (fun t_ k_ => XS.iloadN X.here hx rfl (hb hby d1_6) rfl k_) ?_
    show Gl p e below s own_rVO.cells own_rVO.slots (fun v h L => Fr n0 L ∧ Keep h0 h [] ∧ ∃ k : Nat, v = some (.ref k) ∧ IntO Z h k i) (T.setTop (mkF m 7 #[.val (.int i)] [(.int i)]))
    obtain ⟨T, X, eT, st⟩ := getS2 X hx hZ hown (host := "") (Or.inl (hw _ (List.mem_of_getElem? (i := 5) rfl))) Via.refl eT (Sh.ext O.2) (g := (mkF m 7 #[.val (.int i)] [(.int i)])) rfl (hb hby d1_7)
    refine Gl.by st ?_
    show Gl p e below s own_rVO.cells own_rVO.slots (fun v h L => Fr n0 L ∧ Keep h0 h [] ∧ ∃ k : Nat, v = some (.ref k) ∧ IntO Z h k i) (T.setTop (mkF m 10 #[.val (.int i)] [(.int (127 : Int32)), (.int i)]))
    by_cases c2 : (127 : Int32) < i
    · refine Gl.by (fun t_ k_ => XS.icmpYes X.here hx rfl (pc0 := 10) (pc' := 23) rfl (hb hby d1_10) rfl (tlt c2).2.2.1 (by decide) (by decide) k_) ?_
      show Gl p e below s own_rVO.cells own_rVO.slots (fun v h L => Fr n0 L ∧ Keep h0 h [] ∧ ∃ k : Nat, v = some (.ref k) ∧ IntO Z h k i) (T.setTop (mkF m 23 #[.val (.int i)] []))
      exact j23 T _ X N eT
    · refine Gl.by (fun t_ k_ => XS.icmpNo X.here hx rfl (hb hby d1_10) rfl (flt c2).2.2.1 k_) ?_
      show Gl p e below s own_rVO.cells own_rVO.slots (fun v h L => Fr n0 L ∧ Keep h0 h [] ∧ ∃ k : Nat, v = some (.ref k) ∧ IntO Z h k i) (T.setTop (mkF m 13 #[.val (.int i)] []))
      obtain ⟨T, X, eT, st⟩ := getS2 X hx hZ hown (host := "") (Or.inl (hw _ (List.mem_of_getElem? (i := 7) rfl))) Via.refl eT (Sc.ext O.2) (g := (mkF m 13 #[.val (.int i)] [])) rfl (hb hby d1_13)
      refine Gl.by st ?_
      show Gl p e below s own_rVO.cells own_rVO.slots (fun v h L => Fr n0 L ∧ Keep h0 h [] ∧ ∃ k : Nat, v = some (.ref k) ∧ IntO Z h k i) (T.setTop (mkF m 16 #[.val (.int i)] [(.ref arr)]))
      refine Gl.by (fun t_ k_ => XS.iloadN X.here hx rfl (hb hby d1_16) rfl k_) ?_
      show Gl p e below s own_rVO.cells own_rVO.slots (fun v h L => Fr n0 L ∧ Keep h0 h [] ∧ ∃ k : Nat, v = some (.ref k) ∧ IntO Z h k i) (T.setTop (mkF m 17 #[.val (.int i)] [(.int i), (.ref arr)]))
      refine Gl.by (fun t_ k_ => XS.sipush X.here hx rfl (hb hby d1_17) k_) ?_
      show Gl p e below s own_rVO.cells own_rVO.slots (fun v h L => Fr n0 L ∧ Keep h0 h [] ∧ ∃ k : Nat, v = some (.ref k) ∧ IntO Z h k i) (T.setTop (mkF m 20 #[.val (.int i)] [(.int (128 : Int32)), (.int i), (.ref arr)]))
      refine Gl.by (fun t_ k_ => XS.iadd X.here hx rfl (hb hby d1_20) rfl k_) ?_
      show Gl p e below s own_rVO.cells own_rVO.slots (fun v h L => Fr n0 L ∧ Keep h0 h [] ∧ ∃ k : Nat, v = some (.ref k) ∧ IntO Z h k i) (T.setTop (mkF m 21 #[.val (.int i)] [(.int (i + (128 : Int32))), (.ref arr)]))
      obtain ⟨box, hin, hat, hbx⟩ := hc i c1 c2
      refine Gl.by (X.aaload hx (j := (i + (128 : Int32))) (v := .ref box) (by rw [eT]; exact (Ar.ext O.2).1) (State.isArrayOf_alike hZ.alike Ar.2.1) rfl Ar.2.2 hin hat (g := (mkF m 21 #[.val (.int i)] [(.int (i + (128 : Int32))), (.ref arr)])) rfl rfl (hb hby d1_21)) ?_
      show Gl p e below s own_rVO.cells own_rVO.slots (fun v h L => Fr n0 L ∧ Keep h0 h [] ∧ ∃ k : Nat, v = some (.ref k) ∧ IntO Z h k i) (T.setTop (mkF m 22 #[.val (.int i)] [(.ref box)]))
      refine Gl.retA X hx hlk hret rfl rfl (hb hby d1_22) (by decide) (by decide) ?_
      rw [eT]
      exact ⟨N, Keep.refl h0 [], box, rfl, hbx.1.ext O.2, hbx.2.ext O.2⟩
set_option maxRecDepth 65536 in
set_option maxHeartbeats 40000000 in
theorem own_cmp (l : Launch) (Z : State) (a0 : Array Value) (hw : ∀ d ∈ tables_1, d.before a0 Z = true) (i j : Int32) (h0 : Heap) (n0 : Nat)  :
    Ctr l Z (⟨"java/lang/Integer", "compare", "(II)I"⟩ : MethodName) jdk_33_method_40_code 2 (some .int) [] own_r0 #[(.int i), (.int j)] h0 (fun v h L => v = some (.int (cmp i j)) ∧ L = [] ∧ h = h0) := by
  refine Ctr.intro pn_2 #[.val (.int i), .val (.int j)] (fun m => by first | rfl | (simp [entryFrame, mkF, argsToLocals, Value.category]; done)) ?_
  intro p e s m below meth c T hx hby hml hown hnm hret hlk hZ X eT
  have hown : s.vm.findClass "java/lang/Integer" = some m.cls := hown
  have N := Fr.nil n0
  show Gl p e below s _ _ _ (T.setTop (mkF m 0 #[.val (.int i), .val (.int j)] []))
  refine Gl.by (fun t_ k_ => XS.iloadN X.here hx rfl (hb hby d13_0) rfl k_) ?_
  show Gl p e below s _ _ _ (T.setTop (mkF m 1 #[.val (.int i), .val (.int j)] [(.int i)]))
  refine Gl.by (fun t_ k_ => XS.iloadN X.here hx rfl (hb hby d13_1) rfl k_) ?_
  show Gl p e below s _ _ _ (T.setTop (mkF m 2 #[.val (.int i), .val (.int j)] [(.int j), (.int i)]))
  by_cases c1 : i < j
  · refine Gl.by (fun t_ k_ => XS.icmpNo X.here hx rfl (hb hby d13_2) rfl (tlt c1).2.1 k_) ?_
    show Gl p e below s _ _ _ (T.setTop (mkF m 5 #[.val (.int i), .val (.int j)] []))
    refine Gl.by (fun t_ k_ => XS.iconst X.here hx rfl (hb hby d13_5) k_) ?_
    show Gl p e below s _ _ _ (T.setTop (mkF m 6 #[.val (.int i), .val (.int j)] [(.int (-1 : Int32))]))
    refine Gl.by (fun t_ k_ => XS.goto X.here hx rfl (pc0 := 6) (pc' := 19) rfl (hb hby d13_6) (by decide) (by decide) k_) ?_
    show Gl p e below s _ _ _ (T.setTop (mkF m 19 #[.val (.int i), .val (.int j)] [(.int (-1 : Int32))]))
    refine Gl.retI X hx hlk hret (hb hby d13_19) (by decide) (by decide) ⟨?_, rfl, eT⟩
    rw [cmp, if_pos c1]
  · refine Gl.by (fun t_ k_ => XS.icmpYes X.here hx rfl (pc0 := 2) (pc' := 9) rfl (hb hby d13_2) rfl (flt c1).2.1 (by decide) (by decide) k_) ?_
    show Gl p e below s _ _ _ (T.setTop (mkF m 9 #[.val (.int i), .val (.int j)] []))
    refine Gl.by (fun t_ k_ => XS.iloadN X.here hx rfl (hb hby d13_9) rfl k_) ?_
    show Gl p e below s _ _ _ (T.setTop (mkF m 10 #[.val (.int i), .val (.int j)] [(.int i)]))
    refine Gl.by (fun t_ k_ => XS.iloadN X.here hx rfl (hb hby d13_10) rfl k_) ?_
    show Gl p e below s _ _ _ (T.setTop (mkF m 11 #[.val (.int i), .val (.int j)] [(.int j), (.int i)]))
    by_cases c2 : i = j
    · refine Gl.by (fun t_ k_ => XS.icmpNo X.here hx rfl (hb hby d13_11) rfl (teq c2).2 k_) ?_
      show Gl p e below s _ _ _ (T.setTop (mkF m 14 #[.val (.int i), .val (.int j)] []))
      refine Gl.by (fun t_ k_ => XS.iconst X.here hx rfl (hb hby d13_14) k_) ?_
      show Gl p e below s _ _ _ (T.setTop (mkF m 15 #[.val (.int i), .val (.int j)] [(.int (0 : Int32))]))
      refine Gl.by (fun t_ k_ => XS.goto X.here hx rfl (pc0 := 15) (pc' := 19) rfl (hb hby d13_15) (by decide) (by decide) k_) ?_
      show Gl p e below s _ _ _ (T.setTop (mkF m 19 #[.val (.int i), .val (.int j)] [(.int (0 : Int32))]))
      refine Gl.retI X hx hlk hret (hb hby d13_19) (by decide) (by decide) ⟨?_, rfl, eT⟩
      rw [cmp, if_neg c1, if_pos c2]
    · refine Gl.by (fun t_ k_ => XS.icmpYes X.here hx rfl (pc0 := 11) (pc' := 18) rfl (hb hby d13_11) rfl (feq c2).2 (by decide) (by decide) k_) ?_
      show Gl p e below s _ _ _ (T.setTop (mkF m 18 #[.val (.int i), .val (.int j)] []))
      refine Gl.by (fun t_ k_ => XS.iconst X.here hx rfl (hb hby d13_18) k_) ?_
      show Gl p e below s _ _ _ (T.setTop (mkF m 19 #[.val (.int i), .val (.int j)] [(.int (1 : Int32))]))
      refine Gl.retI X hx hlk hret (hb hby d13_19) (by decide) (by decide) ⟨?_, rfl, eT⟩
      rw [cmp, if_neg c1, if_neg c2]
set_option maxRecDepth 65536 in
set_option maxHeartbeats 40000000 in
theorem own_ct1 (l : Launch) (Z : State) (a0 : Array Value) (hw : ∀ d ∈ tables_1, d.before a0 Z = true) (k k' : Nat) (i j : Int32) (h0 : Heap) (n0 : Nat) (hk : IntO Z h0 k i) (hk' : IntO Z h0 k' j) :
    Ctr l Z (⟨"java/lang/Integer", "compareTo", "(Ljava/lang/Integer;)I"⟩ : MethodName) jdk_33_method_39_code 2 (some .int) [] own_rC1 #[(.ref k), (.ref k')] h0 (fun v h L => v = some (.int (cmp i j)) ∧ L = [] ∧ h = h0) := by
  refine Ctr.intro pn_2 #[.val (.ref k), .val (.ref k')] (fun m => by first | rfl | (simp [entryFrame, mkF, argsToLocals, Value.category]; done)) ?_
  intro p e s m below meth c T hx hby hml hown hnm hret hlk hZ X eT
  have hown : s.vm.findClass "java/lang/Integer" = some m.cls := hown
  have N := Fr.nil n0
  show Gl p e below s _ _ _ (T.setTop (mkF m 0 #[.val (.ref k), .val (.ref k')] []))
  refine Gl.by (fun t_ k_ => XS.aloadN X.here hx rfl (hb hby d12_0) rfl rfl k_) ?_
  show Gl p e below s _ _ _ (T.setTop (mkF m 1 #[.val (.ref k), .val (.ref k')] [(.ref k)]))
  obtain ⟨T, X, eT, st⟩ := getF X hx hZ hown (host := "") (Or.inl (hw _ (List.mem_of_getElem? (i := 87) rfl))) Via.refl eT hk.2 (g := (mkF m 1 #[.val (.ref k), .val (.ref k')] [(.ref k)])) rfl rfl (hb hby d12_1)
  refine Gl.by st ?_
  show Gl p e below s _ _ _ (T.setTop (mkF m 4 #[.val (.ref k), .val (.ref k')] [(.int i)]))
  refine Gl.by (fun t_ k_ => XS.aloadN X.here hx rfl (hb hby d12_4) rfl rfl k_) ?_
  show Gl p e below s _ _ _ (T.setTop (mkF m 5 #[.val (.ref k), .val (.ref k')] [(.ref k'), (.int i)]))
  obtain ⟨T, X, eT, st⟩ := getF X hx hZ hown (host := "") (Or.inl (hw _ (List.mem_of_getElem? (i := 87) rfl))) Via.refl eT hk'.2 (g := (mkF m 5 #[.val (.ref k), .val (.ref k')] [(.ref k'), (.int i)])) rfl rfl (hb hby d12_5)
  refine Gl.by st ?_
  show Gl p e below s _ _ _ (T.setTop (mkF m 8 #[.val (.ref k), .val (.ref k')] [(.int j), (.int i)]))
  refine Gl.stat X hx hZ hown (hw _ (List.mem_of_getElem? (i := 89) rfl)) (hw _ (List.mem_of_getElem? (i := 90) rfl)) (hw _ (List.mem_of_getElem? (i := 3) rfl)) (hw _ (List.mem_of_getElem? (i := 91) rfl)) (by decide) (W := 0) (backC (own_cmp l Z a0 hw i j h0 n0) hZ (hw _ (List.mem_of_getElem? (i := 91) rfl)) (hw _ (List.mem_of_getElem? (i := 3) rfl)) (by decide) (by decide)) eT (hb hby d12_8) (by rw [hml]; rfl) [(.int i), (.int j)] [] (lenOf pd_2 rfl) rfl rfl (Nat.le_of_eq rfl) (by decide) (by decide) ?_
  intro v T L X hq
  obtain ⟨rfl, rfl, eT⟩ := hq
  have N := Fr.app N (Fr.nil n0)
  show Gl p e below s _ _ _ (T.setTop (mkF m 11 #[.val (.ref k), .val (.ref k')] [(.int (cmp i j))]))
  exact Gl.retI X hx hlk hret (hb hby d12_11) (by decide) (by decide) ⟨rfl, rfl, eT⟩
set_option maxRecDepth 65536 in
set_option maxHeartbeats 40000000 in
theorem own_ct2 (l : Launch) (Z : State) (a0 : Array Value) (hw : ∀ d ∈ tables_1, d.before a0 Z = true) (k k' : Nat) (i j : Int32) (h0 : Heap) (n0 : Nat) (hk : IntO Z h0 k i) (hk' : IntO Z h0 k' j) :
    Ctr l Z (⟨"java/lang/Integer", "compareTo", "(Ljava/lang/Object;)I"⟩ : MethodName) jdk_33_method_63_code 2 (some .int) [] own_rC2 #[(.ref k), (.ref k')] h0 (fun v h L => v = some (.int (cmp i j)) ∧ L = [] ∧ h = h0) := by
  refine Ctr.intro pn_2 #[.val (.ref k), .val (.ref k')] (fun m => by first | rfl | (simp [entryFrame, mkF, argsToLocals, Value.category]; done)) ?_
  intro p e s m below meth c T hx hby hml hown hnm hret hlk hZ X eT
  have hown : s.vm.findClass "java/lang/Integer" = some m.cls := hown
  have N := Fr.nil n0
  show Gl p e below s _ _ _ (T.setTop (mkF m 0 #[.val (.ref k), .val (.ref k')] []))
  refine Gl.by (fun t_ k_ => XS.aloadN X.here hx rfl (hb hby d11_0) rfl rfl k_) ?_
  show Gl p e below s _ _ _ (T.setTop (mkF m 1 #[.val (.ref k), .val (.ref k')] [(.ref k)]))
  refine Gl.by (fun t_ k_ => XS.aloadN X.here hx rfl (hb hby d11_1) rfl rfl k_) ?_
  show Gl p e below s _ _ _ (T.setTop (mkF m 2 #[.val (.ref k), .val (.ref k')] [(.ref k'), (.ref k)]))
  obtain ⟨T, X, eT, st⟩ := castY X hx hZ hown (hw _ (List.mem_of_getElem? (i := 80) rfl)) eT (Ins.self hk'.1) (g := (mkF m 2 #[.val (.ref k), .val (.ref k')] [(.ref k'), (.ref k)])) rfl rfl (hb hby d11_2)
  refine Gl.by st ?_
  show Gl p e below s _ _ _ (T.setTop (mkF m 5 #[.val (.ref k), .val (.ref k')] [(.ref k'), (.ref k)]))
  refine Gl.virt X hx hZ hown (hw _ (List.mem_of_getElem? (i := 82) rfl)) (hw _ (List.mem_of_getElem? (i := 83) rfl)) (hw _ (List.mem_of_getElem? (i := 85) rfl)) (hw _ (List.mem_of_getElem? (i := 84) rfl)) (notFace_of_selects (args := #[]) (mvT hZ (hw _ (List.mem_of_getElem? (i := 85) rfl)))) (by decide) hk.1 (W := 0) (backC (own_ct1 l Z a0 hw k k' i j h0 n0 hk hk') hZ (hw _ (List.mem_of_getElem? (i := 86) rfl)) (hw _ (List.mem_of_getElem? (i := 3) rfl)) (by decide) (by decide)) eT (hb hby d11_5) (by rw [hml]; rfl) [(.ref k')] [] (lenOf pd_3 rfl) rfl rfl (Nat.le_of_eq rfl) (by decide) (by decide) ?_
  intro v T L X hq
  obtain ⟨rfl, rfl, eT⟩ := hq
  have N := Fr.app N (Fr.nil n0)
  show Gl p e below s _ _ _ (T.setTop (mkF m 8 #[.val (.ref k), .val (.ref k')] [(.int (cmp i j))]))
  exact Gl.retI X hx hlk hret (hb hby d11_8) (by decide) (by decide) ⟨rfl, rfl, eT⟩
set_option maxRecDepth 65536 in
set_option maxHeartbeats 40000000 in
theorem own_tcmp (l : Launch) (Z : State) (a0 : Array Value) (hw : ∀ d ∈ tables_1, d.before a0 Z = true) (t k k' : Nat) (i j : Int32) (h0 : Heap) (n0 : Nat) (hcp : Fld Z h0 t "java/util/TreeMap" "comparator" "Ljava/util/Comparator;" .null) (hk : IntO Z h0 k i) (hk' : IntO Z h0 k' j) :
    Ctr l Z (⟨"java/util/TreeMap", "compare", "(Ljava/lang/Object;Ljava/lang/Object;)I"⟩ : MethodName) jdk_2729_method_67_code 3 (some .int) [] own_rTC #[(.ref t), (.ref k), (.ref k')] h0 (fun v h L => v = some (.int (cmp i j)) ∧ L = [] ∧ h = h0) := by
  refine Ctr.intro pn_3 #[.val (.ref t), .val (.ref k), .val (.ref k')] (fun m => by first | rfl | (simp [entryFrame, mkF, argsToLocals, Value.category]; done)) ?_
  intro p e s m below meth c T hx hby hml hown hnm hret hlk hZ X eT
  have hown : s.vm.findClass "java/util/TreeMap" = some m.cls := hown
  have N := Fr.nil n0
  show Gl p e below s _ _ _ (T.setTop (mkF m 0 #[.val (.ref t), .val (.ref k), .val (.ref k')] []))
  refine Gl.by (fun t_ k_ => XS.aloadN X.here hx rfl (hb hby d10_0) rfl rfl k_) ?_
  show Gl p e below s _ _ _ (T.setTop (mkF m 1 #[.val (.ref t), .val (.ref k), .val (.ref k')] [(.ref t)]))
  obtain ⟨T, X, eT, st⟩ := getF X hx hZ hown (host := "") (Or.inl (hw _ (List.mem_of_getElem? (i := 34) rfl))) Via.refl eT hcp (g := (mkF m 1 #[.val (.ref t), .val (.ref k), .val (.ref k')] [(.ref t)])) rfl rfl (hb hby d10_1)
  refine Gl.by st ?_
  show Gl p e below s _ _ _ (T.setTop (mkF m 4 #[.val (.ref t), .val (.ref k), .val (.ref k')] [.null]))
  refine Gl.by (fun t_ k_ => XS.ifnonnullNo X.here hx rfl (hb hby d10_4) rfl k_) ?_
  show Gl p e below s _ _ _ (T.setTop (mkF m 7 #[.val (.ref t), .val (.ref k), .val (.ref k')] []))
  refine Gl.by (fun t_ k_ => XS.aloadN X.here hx rfl (hb hby d10_7) rfl rfl k_) ?_
  show Gl p e below s _ _ _ (T.setTop (mkF m 8 #[.val (.ref t), .val (.ref k), .val (.ref k')] [(.ref k)]))
  obtain ⟨T, X, eT, st⟩ := castY X hx hZ hown (hw _ (List.mem_of_getElem? (i := 70) rfl)) eT (Ins.of_exa hk.1 (hw _ (List.mem_of_getElem? (i := 71) rfl))) (g := (mkF m 8 #[.val (.ref t), .val (.ref k), .val (.ref k')] [(.ref k)])) rfl rfl (hb hby d10_8)
  refine Gl.by st ?_
  show Gl p e below s _ _ _ (T.setTop (mkF m 11 #[.val (.ref t), .val (.ref k), .val (.ref k')] [(.ref k)]))
  refine Gl.by (fun t_ k_ => XS.aloadN X.here hx rfl (hb hby d10_11) rfl rfl k_) ?_
  show Gl p e below s _ _ _ (T.setTop (mkF m 12 #[.val (.ref t), .val (.ref k), .val (.ref k')] [(.ref k'), (.ref k)]))
  refine Gl.face X hx hZ hown (hw _ (List.mem_of_getElem? (i := 72) rfl)) (hw _ (List.mem_of_getElem? (i := 73) rfl)) (mvT hZ (hw _ (List.mem_of_getElem? (i := 74) rfl))) (hw _ (List.mem_of_getElem? (i := 75) rfl)) (hw _ (List.mem_of_getElem? (i := 76) rfl)) (hw _ (List.mem_of_getElem? (i := 77) rfl)) (hw _ (List.mem_of_getElem? (i := 78) rfl)) (hw _ (List.mem_of_getElem? (i := 71) rfl)) (by decide) hk.1 (W := 0) (backC (own_ct2 l Z a0 hw k k' i j h0 n0 hk hk') hZ (hw _ (List.mem_of_getElem? (i := 79) rfl)) (hw _ (List.mem_of_getElem? (i := 3) rfl)) (by decide) (by decide)) eT (hb hby d10_12) (by rw [hml]; rfl) [(.ref k')] [] (lenOf pd_4 rfl) rfl rfl (Nat.le_of_eq rfl) (by decide) (by decide) ?_
  intro v T L X hq
  obtain ⟨rfl, rfl, eT⟩ := hq
  have N := Fr.app N (Fr.nil n0)
  show Gl p e below s _ _ _ (T.setTop (mkF m 17 #[.val (.ref t), .val (.ref k), .val (.ref k')] [(.int (cmp i j))]))
  refine Gl.by (fun t_ k_ => XS.goto X.here hx rfl (pc0 := 17) (pc' := 31) rfl (hb hby d10_17) (by decide) (by decide) k_) ?_
  show Gl p e below s _ _ _ (T.setTop (mkF m 31 #[.val (.ref t), .val (.ref k), .val (.ref k')] [(.int (cmp i j))]))
  exact Gl.retI X hx hlk hret (hb hby d10_31) (by decide) (by decide) ⟨rfl, rfl, eT⟩
set_option maxRecDepth 65536 in
set_option maxHeartbeats 40000000 in
theorem own_rnn (l : Launch) (Z : State) (a0 : Array Value) (hw : ∀ d ∈ tables_1, d.before a0 Z = true) (k : Nat) (h0 : Heap) (n0 : Nat)  :
    Ctr l Z (⟨"java/util/Objects", "requireNonNull", "(Ljava/lang/Object;)Ljava/lang/Object;"⟩ : MethodName) jdk_31_method_10_code 1 (some (.object "java/lang/Object")) [] own_r0 #[(.ref k)] h0 (fun v h L => v = some (.ref k) ∧ L = [] ∧ h = h0) := by
  refine Ctr.intro pn_4 #[.val (.ref k)] (fun m => by first | rfl | (simp [entryFrame, mkF, argsToLocals, Value.category]; done)) ?_
  intro p e s m below meth c T hx hby hml hown hnm hret hlk hZ X eT
  have hown : s.vm.findClass "java/util/Objects" = some m.cls := hown
  have N := Fr.nil n0
  show Gl p e below s _ _ _ (T.setTop (mkF m 0 #[.val (.ref k)] []))
  refine Gl.by (fun t_ k_ => XS.aloadN X.here hx rfl (hb hby d15_0) rfl rfl k_) ?_
  show Gl p e below s _ _ _ (T.setTop (mkF m 1 #[.val (.ref k)] [(.ref k)]))
  refine Gl.by (fun t_ k_ => XS.ifnonnullYes X.here hx rfl (pc0 := 1) (pc' := 12) rfl (hb hby d15_1) rfl (by decide) (by decide) k_) ?_
  show Gl p e below s _ _ _ (T.setTop (mkF m 12 #[.val (.ref k)] []))
  refine Gl.by (fun t_ k_ => XS.aloadN X.here hx rfl (hb hby d15_12) rfl rfl k_) ?_
  show Gl p e below s _ _ _ (T.setTop (mkF m 13 #[.val (.ref k)] [(.ref k)]))
  exact Gl.retA X hx hlk hret rfl rfl (hb hby d15_13) (by decide) (by decide) ⟨rfl, rfl, eT⟩
set_option maxRecDepth 65536 in
set_option maxHeartbeats 40000000 in
theorem own_tmi (l : Launch) (Z : State) (a0 : Array Value) (hw : ∀ d ∈ tables_1, d.before a0 Z = true) (t : Nat) (h0 : Heap) (n0 : Nat) (Z0 : n0 ≤ t) (E : Exa Z h0 t "java/util/TreeMap") (F_size : Fld Z h0 t "java/util/TreeMap" "size" "I" (.int (0 : Int32))) (F_modCount : Fld Z h0 t "java/util/TreeMap" "modCount" "I" (.int (0 : Int32))) (F_comparator : Fld Z h0 t "java/util/TreeMap" "comparator" "Ljava/util/Comparator;" .null) (F_root : Fld Z h0 t "java/util/TreeMap" "root" "Ljava/util/TreeMap$Entry;" .null) :
    Ctr l Z (⟨"java/util/TreeMap", "<init>", "()V"⟩ : MethodName) jdk_2729_method_1_code 1 none [] own_rII #[(.ref t)] h0 (fun v h L => v = none ∧ Fr n0 L ∧ Keep h0 h [t] ∧ Tmo Z h t .null 0 0) := by
  refine Ctr.intro pn_3 #[.val (.ref t)] (fun m => by first | rfl | (simp [entryFrame, mkF, argsToLocals, Value.category]; done)) ?_
  intro p e s m below meth c T hx hby hml hown hnm hret hlk hZ X eT
  have hown : s.vm.findClass "java/util/TreeMap" = some m.cls := hown
  have N := Fr.nil n0
  show Gl p e below s _ _ _ (T.setTop (mkF m 0 #[.val (.ref t)] []))
  refine Gl.by (fun t_ k_ => XS.aloadN X.here hx rfl (hb hby d4_0) rfl rfl k_) ?_
  show Gl p e below s _ _ _ (T.setTop (mkF m 1 #[.val (.ref t)] [(.ref t)]))
  refine Gl.spec X hx hZ rfl hown (hw _ (List.mem_of_getElem? (i := 23) rfl)) (hw _ (List.mem_of_getElem? (i := 24) rfl)) (hw _ (List.mem_of_getElem? (i := 28) rfl)) (by decide) (W := 0) (backC (own_abm l Z a0 hw t h0 n0) hZ (hw _ (List.mem_of_getElem? (i := 28) rfl)) (hw _ (List.mem_of_getElem? (i := 27) rfl)) (by decide) (by decide)) eT (hb hby d4_1) (by rw [hml]; rfl) t [] [] (lenOf pd_0 rfl) rfl rfl (Nat.le_of_eq rfl) (by decide) (by decide) ?_
  intro v T L X hq
  obtain ⟨rfl, rfl, eT⟩ := hq
  have N := Fr.app N (Fr.nil n0)
  show Gl p e below s _ _ _ (T.setTop (mkF m 4 #[.val (.ref t)] []))
  refine Gl.by (fun t_ k_ => XS.aloadN X.here hx rfl (hb hby d4_4) rfl rfl k_) ?_
  show Gl p e below s _ _ _ (T.setTop (mkF m 5 #[.val (.ref t)] [(.ref t)]))
  refine Gl.by (fun t_ k_ => XS.iconst X.here hx rfl (hb hby d4_5) k_) ?_
  show Gl p e below s _ _ _ (T.setTop (mkF m 6 #[.val (.ref t)] [(.int (0 : Int32)), (.ref t)]))
  obtain ⟨T, h1, X, eT, W1, st⟩ := putF X hx hZ hown (host := "") (Or.inl (hw _ (List.mem_of_getElem? (i := 30) rfl))) Via.refl eT F_size E (Or.inl (hw _ (List.mem_of_getElem? (i := 31) rfl))) (hw _ (List.mem_of_getElem? (i := 18) rfl)) (ty := .int) (by decide) rfl rfl (g := (mkF m 6 #[.val (.ref t)] [(.int (0 : Int32)), (.ref t)])) rfl rfl (hb hby d4_6)
  have F1_size : Fld Z h1 t "java/util/TreeMap" "size" "I" (.int (0 : Int32)) := Fld.same W1 F_size
  have sz1 := (Keep.of_wr W1).1
  have N := Fr.snoc X N (by omega)
  refine Gl.by st ?_
  show Gl p e below s _ _ _ (T.setTop (mkF m 9 #[.val (.ref t)] []))
  refine Gl.by (fun t_ k_ => XS.aloadN X.here hx rfl (hb hby d4_9) rfl rfl k_) ?_
  show Gl p e below s _ _ _ (T.setTop (mkF m 10 #[.val (.ref t)] [(.ref t)]))
  refine Gl.by (fun t_ k_ => XS.iconst X.here hx rfl (hb hby d4_10) k_) ?_
  show Gl p e below s _ _ _ (T.setTop (mkF m 11 #[.val (.ref t)] [(.int (0 : Int32)), (.ref t)]))
  obtain ⟨T, h2, X, eT, W2, st⟩ := putF X hx hZ hown (host := "") (Or.inl (hw _ (List.mem_of_getElem? (i := 32) rfl))) Via.refl eT (F_modCount.other W1 (Or.inr (slot_ne (C := "java/util/TreeMap") (Or.inl (hw _ (List.mem_of_getElem? (i := 33) rfl))) (Or.inl (hw _ (List.mem_of_getElem? (i := 31) rfl))) (by decide) (t := .int) (t' := .int) (by decide) (by decide)))) (E.wr W1) (Or.inl (hw _ (List.mem_of_getElem? (i := 33) rfl))) (hw _ (List.mem_of_getElem? (i := 18) rfl)) (ty := .int) (by decide) rfl rfl (g := (mkF m 11 #[.val (.ref t)] [(.int (0 : Int32)), (.ref t)])) rfl rfl (hb hby d4_11)
  have F2_modCount : Fld Z h2 t "java/util/TreeMap" "modCount" "I" (.int (0 : Int32)) := Fld.same W2 (F_modCount.other W1 (Or.inr (slot_ne (C := "java/util/TreeMap") (Or.inl (hw _ (List.mem_of_getElem? (i := 33) rfl))) (Or.inl (hw _ (List.mem_of_getElem? (i := 31) rfl))) (by decide) (t := .int) (t' := .int) (by decide) (by decide))))
  have sz2 := (Keep.of_wr W2).1
  have N := Fr.snoc X N (by omega)
  refine Gl.by st ?_
  show Gl p e below s _ _ _ (T.setTop (mkF m 14 #[.val (.ref t)] []))
  refine Gl.by (fun t_ k_ => XS.aloadN X.here hx rfl (hb hby d4_14) rfl rfl k_) ?_
  show Gl p e below s _ _ _ (T.setTop (mkF m 15 #[.val (.ref t)] [(.ref t)]))
  refine Gl.by (fun t_ k_ => XS.aconstNull X.here hx rfl (hb hby d4_15) k_) ?_
  show Gl p e below s _ _ _ (T.setTop (mkF m 16 #[.val (.ref t)] [.null, (.ref t)]))
  obtain ⟨T, h3, X, eT, W3, st⟩ := putF X hx hZ hown (host := "") (Or.inl (hw _ (List.mem_of_getElem? (i := 34) rfl))) Via.refl eT ((F_comparator.other W1 (Or.inr (slot_ne (C := "java/util/TreeMap") (Or.inr (hw _ (List.mem_of_getElem? (i := 35) rfl))) (Or.inl (hw _ (List.mem_of_getElem? (i := 31) rfl))) (by decide) (t := (.object "java/util/Comparator")) (t' := .int) (by decide) (by decide)))).other W2 (Or.inr (slot_ne (C := "java/util/TreeMap") (Or.inr (hw _ (List.mem_of_getElem? (i := 35) rfl))) (Or.inl (hw _ (List.mem_of_getElem? (i := 33) rfl))) (by decide) (t := (.object "java/util/Comparator")) (t' := .int) (by decide) (by decide)))) ((E.wr W1).wr W2) (Or.inr ⟨(hw _ (List.mem_of_getElem? (i := 35) rfl)), rfl, hnm⟩) (hw _ (List.mem_of_getElem? (i := 18) rfl)) (ty := (.object "java/util/Comparator")) (by decide) rfl rfl (g := (mkF m 16 #[.val (.ref t)] [.null, (.ref t)])) rfl rfl (hb hby d4_16)
  have F3_comparator : Fld Z h3 t "java/util/TreeMap" "comparator" "Ljava/util/Comparator;" .null := Fld.same W3 ((F_comparator.other W1 (Or.inr (slot_ne (C := "java/util/TreeMap") (Or.inr (hw _ (List.mem_of_getElem? (i := 35) rfl))) (Or.inl (hw _ (List.mem_of_getElem? (i := 31) rfl))) (by decide) (t := (.object "java/util/Comparator")) (t' := .int) (by decide) (by decide)))).other W2 (Or.inr (slot_ne (C := "java/util/TreeMap") (Or.inr (hw _ (List.mem_of_getElem? (i := 35) rfl))) (Or.inl (hw _ (List.mem_of_getElem? (i := 33) rfl))) (by decide) (t := (.object "java/util/Comparator")) (t' := .int) (by decide) (by decide))))
  have sz3 := (Keep.of_wr W3).1
  have N := Fr.snoc X N (by omega)
  refine Gl.by st ?_
  show Gl p e below s _ _ _ (T.setTop (mkF m 19 #[.val (.ref t)] []))
  refine Gl.retV X hx hlk hret (hb hby d4_19) (by decide) (by decide) ?_
  rw [eT]
  exact ⟨rfl, N, ((((Keep.refl h0 [t]).wr W1 (Or.inl (by simp))).wr W2 (Or.inl (by simp))).wr W3 (Or.inl (by simp))), ⟨(((E.wr W1).wr W2).wr W3), F3_comparator, (((F_root.other W1 (Or.inr (slot_ne (C := "java/util/TreeMap") (Or.inl (hw _ (List.mem_of_getElem? (i := 59) rfl))) (Or.inl (hw _ (List.mem_of_getElem? (i := 31) rfl))) (by decide) (t := (.object "java/util/TreeMap$Entry")) (t' := .int) (by decide) (by decide)))).other W2 (Or.inr (slot_ne (C := "java/util/TreeMap") (Or.inl (hw _ (List.mem_of_getElem? (i := 59) rfl))) (Or.inl (hw _ (List.mem_of_getElem? (i := 33) rfl))) (by decide) (t := (.object "java/util/TreeMap$Entry")) (t' := .int) (by decide) (by decide)))).other W3 (Or.inr (slot_ne (C := "java/util/TreeMap") (Or.inl (hw _ (List.mem_of_getElem? (i := 59) rfl))) (Or.inr (hw _ (List.mem_of_getElem? (i := 35) rfl))) (by decide) (t := (.object "java/util/TreeMap$Entry")) (t' := (.object "java/util/Comparator")) (by decide) (by decide)))), ((F1_size.other W2 (Or.inr (slot_ne (C := "java/util/TreeMap") (Or.inl (hw _ (List.mem_of_getElem? (i := 31) rfl))) (Or.inl (hw _ (List.mem_of_getElem? (i := 33) rfl))) (by decide) (t := .int) (t' := .int) (by decide) (by decide)))).other W3 (Or.inr (slot_ne (C := "java/util/TreeMap") (Or.inl (hw _ (List.mem_of_getElem? (i := 31) rfl))) (Or.inr (hw _ (List.mem_of_getElem? (i := 35) rfl))) (by decide) (t := .int) (t' := (.object "java/util/Comparator")) (by decide) (by decide)))), (F2_modCount.other W3 (Or.inr (slot_ne (C := "java/util/TreeMap") (Or.inl (hw _ (List.mem_of_getElem? (i := 33) rfl))) (Or.inr (hw _ (List.mem_of_getElem? (i := 35) rfl))) (by decide) (t := .int) (t' := (.object "java/util/Comparator")) (by decide) (by decide))))⟩⟩
abbrev own_rCI : Room := { frames := 3, cells := 1, slots := 9, locals := 40 }
set_option maxRecDepth 65536 in
set_option maxHeartbeats 40000000 in
theorem own_cavi (l : Launch) (Z : State) (a0 : Array Value) (hw : ∀ d ∈ tables_1, d.before a0 Z = true) (cv : Nat) (h0 : Heap) (n0 : Nat) (Z0 : n0 ≤ cv) (Z1 : n0 ≤ h0.size) (E : Exa Z h0 cv "com/example/hookwright/hookwright/ConstructorArgumentValues") (F : Fld Z h0 cv "com/example/hookwright/hookwright/ConstructorArgumentValues" "values" "Ljava/util/Map;" .null) :
    Ctr l Z (⟨"com/example/hookwright/hookwright/ConstructorArgumentValues", "<init>", "()V"⟩ : MethodName) prog_22_method_1_code 1 none [] own_rCI #[(.ref cv)] h0 (fun v h L => v = none ∧ Fr n0 L ∧ Keep h0 h [cv] ∧ ∃ t : Nat, h0.size ≤ t ∧ Exa Z h cv "com/example/hookwright/hookwright/ConstructorArgumentValues" ∧ Fld Z h cv "com/example/hookwright/hookwright/ConstructorArgumentValues" "values" "Ljava/util/Map;" (.ref t) ∧ Tmo Z h t .null 0 0) := by
  refine Ctr.intro pn_5 #[.val (.ref cv)] (fun m => by first | rfl | (simp [entryFrame, mkF, argsToLocals, Value.category]; done)) ?_
  intro p e s m below meth c T hx hby hml hown hnm hret hlk hZ X eT
  have hown : s.vm.findClass "com/example/hookwright/hookwright/ConstructorArgumentValues" = some m.cls := hown
  have N := Fr.nil n0
  have lc : cv < h0.size := E.lt
  show Gl p e below s _ _ _ (T.setTop (mkF m 0 #[.val (.ref cv)] []))
  refine Gl.by (fun t_ k_ => XS.aloadN X.here hx rfl (hb hby d2_0) rfl rfl k_) ?_
  show Gl p e below s _ _ _ (T.setTop (mkF m 1 #[.val (.ref cv)] [(.ref cv)]))
  obtain ⟨T, X, eT, st⟩ := initO X hx hZ hown (hw _ (List.mem_of_getElem? (i := 14) rfl)) (hw _ (List.mem_of_getElem? (i := 15) rfl)) (hw _ (List.mem_of_getElem? (i := 16) rfl)) eT (g := (mkF m 1 #[.val (.ref cv)] [(.ref cv)])) rfl (by rw [hml]; rfl) rfl (hb hby d2_1) (by decide) (W := 0) (by show 2 * 0 + _ ≤ _; exact Nat.le_of_eq rfl) (by decide)
  refine Gl.by st ?_
  show Gl p e below s _ _ _ (T.setTop (mkF m 4 #[.val (.ref cv)] []))
  refine Gl.by (fun t_ k_ => XS.aloadN X.here hx rfl (hb hby d2_4) rfl rfl k_) ?_
  show Gl p e below s _ _ _ (T.setTop (mkF m 5 #[.val (.ref cv)] [(.ref cv)]))
  obtain ⟨T, h1, X, eT, E1, A1, D1, -, st⟩ := newO X hx hZ hown (hw _ (List.mem_of_getElem? (i := 17) rfl)) (hw _ (List.mem_of_getElem? (i := 18) rfl)) (hw _ (List.mem_of_getElem? (i := 19) rfl)) eT (g := (mkF m 5 #[.val (.ref cv)] [(.ref cv)])) rfl (hb hby d2_5) (by decide) (by decide)
  obtain ⟨t, g1⟩ : ∃ z, z = h0.size := ⟨_, rfl⟩
  rw [← g1] at A1 D1 st
  have sz1 := E1.1
  have lt1 : t < h1.size := A1.lt
  refine Gl.by st ?_
  have F1_size : Fld Z h1 t "java/util/TreeMap" "size" "I" (.int (0 : Int32)) := D1 (Or.inl (hw _ (List.mem_of_getElem? (i := 31) rfl))) (ty := .int) (by decide)
  have F1_modCount : Fld Z h1 t "java/util/TreeMap" "modCount" "I" (.int (0 : Int32)) := D1 (Or.inl (hw _ (List.mem_of_getElem? (i := 33) rfl))) (ty := .int) (by decide)
  have F1_comparator : Fld Z h1 t "java/util/TreeMap" "comparator" "Ljava/util/Comparator;" .null := D1 (Or.inr (hw _ (List.mem_of_getElem? (i := 35) rfl))) (ty := (.object "java/util/Comparator")) (by decide)
  have F1_root : Fld Z h1 t "java/util/TreeMap" "root" "Ljava/util/TreeMap$Entry;" .null := D1 (Or.inl (hw _ (List.mem_of_getElem? (i := 59) rfl))) (ty := (.object "java/util/TreeMap$Entry")) (by decide)
  show Gl p e below s _ _ _ (T.setTop (mkF m 8 #[.val (.ref cv)] [(.ref t), (.ref cv)]))
  refine Gl.by (fun t_ k_ => XS.dup X.here hx rfl (hb hby d2_8) rfl rfl k_) ?_
  show Gl p e below s _ _ _ (T.setTop (mkF m 9 #[.val (.ref cv)] [(.ref t), (.ref t), (.ref cv)]))
  refine Gl.spec X hx hZ rfl hown (hw _ (List.mem_of_getElem? (i := 20) rfl)) (hw _ (List.mem_of_getElem? (i := 21) rfl)) (hw _ (List.mem_of_getElem? (i := 22) rfl)) (by decide) (W := 2) (backC (own_tmi l Z a0 hw t h1 n0 (by omega) A1 F1_size F1_modCount F1_comparator F1_root) hZ (hw _ (List.mem_of_getElem? (i := 22) rfl)) (hw _ (List.mem_of_getElem? (i := 19) rfl)) (by decide) (by decide)) eT (hb hby d2_9) (by rw [hml]; rfl) t [] [(.ref t), (.ref cv)] (lenOf pd_0 rfl) rfl rfl (Nat.le_of_eq rfl) (by decide) (by decide) ?_
  intro v T L X hq
  obtain ⟨rfl, NQ, K2, F2⟩ := hq
  have N := Fr.app N NQ
  obtain ⟨h2, eT⟩ : ∃ z, T.heap = z := ⟨_, rfl⟩
  rw [eT] at K2 F2
  have sz2 := K2.1
  show Gl p e below s _ _ _ (T.setTop (mkF m 12 #[.val (.ref cv)] [(.ref t), (.ref cv)]))
  obtain ⟨T, h3, X, eT, W3, st⟩ := putF X hx hZ hown (host := "") (Or.inl (hw _ (List.mem_of_getElem? (i := 36) rfl))) Via.refl eT ((F.ext E1).keep K2 (ninS (ne_exa (E.ext E1) A1 (by decide)) nin0)) ((E.ext E1).keep K2) (Or.inr ⟨(hw _ (List.mem_of_getElem? (i := 37) rfl)), rfl, hnm⟩) (hw _ (List.mem_of_getElem? (i := 9) rfl)) (ty := (.object "java/util/Map")) (by decide) rfl rfl (g := (mkF m 12 #[.val (.ref cv)] [(.ref t), (.ref cv)])) rfl rfl (hb hby d2_12)
  have F3_values : Fld Z h3 cv "com/example/hookwright/hookwright/ConstructorArgumentValues" "values" "Ljava/util/Map;" (.ref t) := Fld.same W3 ((F.ext E1).keep K2 (ninS (ne_exa (E.ext E1) A1 (by decide)) nin0))
  have sz3 := (Keep.of_wr W3).1
  have N := Fr.snoc X N (by omega)
  refine Gl.by st ?_
  show Gl p e below s _ _ _ (T.setTop (mkF m 15 #[.val (.ref cv)] []))
  refine Gl.retV X hx hlk hret (hb hby d2_15) (by decide) (by decide) ?_
  rw [eT]
  exact ⟨rfl, N, ((((Keep.refl h0 [cv]).ext E1).trans K2 (allS (Or.inr (by omega)) all0)).wr W3 (Or.inl (by simp))), t, by omega, (((E.ext E1).keep K2).wr W3), F3_values, ⟨((A1.keep K2).wr W3), (F2.2.1.other W3 (Or.inl (ne_exa (A1.keep K2) ((E.ext E1).keep K2) (by decide)))), (F2.2.2.1.other W3 (Or.inl (ne_exa (A1.keep K2) ((E.ext E1).keep K2) (by decide)))), (F2.2.2.2.1.other W3 (Or.inl (ne_exa (A1.keep K2) ((E.ext E1).keep K2) (by decide)))), (F2.2.2.2.2.other W3 (Or.inl (ne_exa (A1.keep K2) ((E.ext E1).keep K2) (by decide))))⟩⟩
set_option maxRecDepth 65536 in
set_option maxHeartbeats 40000000 in
theorem own_eni (l : Launch) (Z : State) (a0 : Array Value) (hw : ∀ d ∈ tables_1, d.before a0 Z = true) (x k : Nat) (v pa : Value) (h0 : Heap) (n0 : Nat) (Z0 : n0 ≤ x) (hv : v.isRef = true) (hpa : pa.isRef = true) (E : Exa Z h0 x "java/util/TreeMap$Entry") (F_key : Fld Z h0 x "java/util/TreeMap$Entry" "key" "Ljava/lang/Object;" .null) (F_value : Fld Z h0 x "java/util/TreeMap$Entry" "value" "Ljava/lang/Object;" .null) (F_left : Fld Z h0 x "java/util/TreeMap$Entry" "left" "Ljava/util/TreeMap$Entry;" .null) (F_right : Fld Z h0 x "java/util/TreeMap$Entry" "right" "Ljava/util/TreeMap$Entry;" .null) (F_parent : Fld Z h0 x "java/util/TreeMap$Entry" "parent" "Ljava/util/TreeMap$Entry;" .null) (F_color : Fld Z h0 x "java/util/TreeMap$Entry" "color" "Z" (.int (0 : Int32))) :
    Ctr l Z (⟨"java/util/TreeMap$Entry", "<init>", "(Ljava/lang/Object;Ljava/lang/Object;Ljava/util/TreeMap$Entry;)V"⟩ : MethodName) jdk_2736_method_1_code 4 none [] own_rN #[(.ref x), (.ref k), v, pa] h0 (fun r h L => r = none ∧ Fr n0 L ∧ Keep h0 h [x] ∧ Exa Z h x "java/util/TreeMap$Entry" ∧ Fld Z h x "java/util/TreeMap$Entry" "key" "Ljava/lang/Object;" (.ref k) ∧ Fld Z h x "java/util/TreeMap$Entry" "value" "Ljava/lang/Object;" v ∧ Fld Z h x "java/util/TreeMap$Entry" "left" "Ljava/util/TreeMap$Entry;" .null ∧ Fld Z h x "java/util/TreeMap$Entry" "right" "Ljava/util/TreeMap$Entry;" .null ∧ Fld Z h x "java/util/TreeMap$Entry" "parent" "Ljava/util/TreeMap$Entry;" pa ∧ Fld Z h x "java/util/TreeMap$Entry" "color" "Z" (.int 1)) := by
  refine Ctr.intro pn_6 #[.val (.ref x), .val (.ref k), .val v, .val pa] (fun m => by rcases ref_cases hv with rfl | ⟨_, rfl⟩ <;> rcases ref_cases hpa with rfl | ⟨_, rfl⟩ <;> rfl) ?_
  intro p e s m below meth c T hx hby hml hown hnm hret hlk hZ X eT
  have hown : s.vm.findClass "java/util/TreeMap$Entry" = some m.cls := hown
  have N := Fr.nil n0
  show Gl p e below s _ _ _ (T.setTop (mkF m 0 #[.val (.ref x), .val (.ref k), .val v, .val pa] []))
  refine Gl.by (fun t_ k_ => XS.aloadN X.here hx rfl (hb hby d14_0) rfl rfl k_) ?_
  show Gl p e below s _ _ _ (T.setTop (mkF m 1 #[.val (.ref x), .val (.ref k), .val v, .val pa] [(.ref x)]))
  obtain ⟨T, X, eT, st⟩ := initO X hx hZ hown (hw _ (List.mem_of_getElem? (i := 99) rfl)) (hw _ (List.mem_of_getElem? (i := 15) rfl)) (hw _ (List.mem_of_getElem? (i := 16) rfl)) eT (g := (mkF m 1 #[.val (.ref x), .val (.ref k), .val v, .val pa] [(.ref x)])) rfl (by rw [hml]; rfl) rfl (hb hby d14_1) (by decide) (W := 0) (by show 2 * 0 + _ ≤ _; exact Nat.le_of_eq rfl) (by decide)
  refine Gl.by st ?_
  show Gl p e below s _ _ _ (T.setTop (mkF m 4 #[.val (.ref x), .val (.ref k), .val v, .val pa] []))
  refine Gl.by (fun t_ k_ => XS.aloadN X.here hx rfl (hb hby d14_4) rfl rfl k_) ?_
  show Gl p e below s _ _ _ (T.setTop (mkF m 5 #[.val (.ref x), .val (.ref k), .val v, .val pa] [(.ref x)]))
  refine Gl.by (fun t_ k_ => XS.iconst X.here hx rfl (hb hby d14_5) k_) ?_
  show Gl p e below s _ _ _ (T.setTop (mkF m 6 #[.val (.ref x), .val (.ref k), .val v, .val pa] [(.int (1 : Int32)), (.ref x)]))
  obtain ⟨T, h1, X, eT, W1, st⟩ := putF X hx hZ hown (host := "") (Or.inl (hw _ (List.mem_of_getElem? (i := 100) rfl))) Via.refl eT F_color E (Or.inl (hw _ (List.mem_of_getElem? (i := 101) rfl))) (hw _ (List.mem_of_getElem? (i := 93) rfl)) (ty := .boolean) (by decide) rfl rfl (g := (mkF m 6 #[.val (.ref x), .val (.ref k), .val v, .val pa] [(.int (1 : Int32)), (.ref x)])) rfl rfl (hb hby d14_6)
  have F1_color : Fld Z h1 x "java/util/TreeMap$Entry" "color" "Z" (.int (1 : Int32)) := Fld.same W1 F_color
  have sz1 := (Keep.of_wr W1).1
  have N := Fr.snoc X N (by omega)
  refine Gl.by st ?_
  show Gl p e below s _ _ _ (T.setTop (mkF m 9 #[.val (.ref x), .val (.ref k), .val v, .val pa] []))
  refine Gl.by (fun t_ k_ => XS.aloadN X.here hx rfl (hb hby d14_9) rfl rfl k_) ?_
  show Gl p e below s _ _ _ (T.setTop (mkF m 10 #[.val (.ref x), .val (.ref k), .val v, .val pa] [(.ref x)]))
  refine Gl.by (fun t_ k_ => XS.aloadN X.here hx rfl (hb hby d14_10) rfl rfl k_) ?_
  show Gl p e below s _ _ _ (T.setTop (mkF m 11 #[.val (.ref x), .val (.ref k), .val v, .val pa] [(.ref k), (.ref x)]))
  obtain ⟨T, h2, X, eT, W2, st⟩ := putF X hx hZ hown (host := "") (Or.inl (hw _ (List.mem_of_getElem? (i := 102) rfl))) Via.refl eT (F_key.other W1 (Or.inr (slot_ne (C := "java/util/TreeMap$Entry") (Or.inl (hw _ (List.mem_of_getElem? (i := 103) rfl))) (Or.inl (hw _ (List.mem_of_getElem? (i := 101) rfl))) (by decide) (t := (.object "java/lang/Object")) (t' := .boolean) (by decide) (by decide)))) (E.wr W1) (Or.inl (hw _ (List.mem_of_getElem? (i := 103) rfl))) (hw _ (List.mem_of_getElem? (i := 93) rfl)) (ty := (.object "java/lang/Object")) (by decide) rfl rfl (g := (mkF m 11 #[.val (.ref x), .val (.ref k), .val v, .val pa] [(.ref k), (.ref x)])) rfl rfl (hb hby d14_11)
  have F2_key : Fld Z h2 x "java/util/TreeMap$Entry" "key" "Ljava/lang/Object;" (.ref k) := Fld.same W2 (F_key.other W1 (Or.inr (slot_ne (C := "java/util/TreeMap$Entry") (Or.inl (hw _ (List.mem_of_getElem? (i := 103) rfl))) (Or.inl (hw _ (List.mem_of_getElem? (i := 101) rfl))) (by decide) (t := (.object "java/lang/Object")) (t' := .boolean) (by decide) (by decide))))
  have sz2 := (Keep.of_wr W2).1
  have N := Fr.snoc X N (by omega)
  refine Gl.by st ?_
  show Gl p e below s _ _ _ (T.setTop (mkF m 14 #[.val (.ref x), .val (.ref k), .val v, .val pa] []))
  refine Gl.by (fun t_ k_ => XS.aloadN X.here hx rfl (hb hby d14_14) rfl rfl k_) ?_
  show Gl p e below s _ _ _ (T.setTop (mkF m 15 #[.val (.ref x), .val (.ref k), .val v, .val pa] [(.ref x)]))
  refine Gl.by (fun t_ k_ => XS.aloadN X.here hx rfl (hb hby d14_15) rfl hv k_) ?_
  show Gl p e below s _ _ _ (T.setTop (mkF m 16 #[.val (.ref x), .val (.ref k), .val v, .val pa] [v, (.ref x)]))
  obtain ⟨T, h3, X, eT, W3, st⟩ := putF X hx hZ hown (host := "") (Or.inl (hw _ (List.mem_of_getElem? (i := 104) rfl))) Via.refl eT ((F_value.other W1 (Or.inr (slot_ne (C := "java/util/TreeMap$Entry") (Or.inl (hw _ (List.mem_of_getElem? (i := 105) rfl))) (Or.inl (hw _ (List.mem_of_getElem? (i := 101) rfl))) (by decide) (t := (.object "java/lang/Object")) (t' := .boolean) (by decide) (by decide)))).other W2 (Or.inr (slot_ne (C := "java/util/TreeMap$Entry") (Or.inl (hw _ (List.mem_of_getElem? (i := 105) rfl))) (Or.inl (hw _ (List.mem_of_getElem? (i := 103) rfl))) (by decide) (t := (.object "java/lang/Object")) (t' := (.object "java/lang/Object")) (by decide) (by decide)))) ((E.wr W1).wr W2) (Or.inl (hw _ (List.mem_of_getElem? (i := 105) rfl))) (hw _ (List.mem_of_getElem? (i := 93) rfl)) (ty := (.object "java/lang/Object")) (by decide) narR (fitsR hv) (g := (mkF m 16 #[.val (.ref x), .val (.ref k), .val v, .val pa] [v, (.ref x)])) rfl rfl (hb hby d14_16)
  have F3_value : Fld Z h3 x "java/util/TreeMap$Entry" "value" "Ljava/lang/Object;" v := Fld.same W3 ((F_value.other W1 (Or.inr (slot_ne (C := "java/util/TreeMap$Entry") (Or.inl (hw _ (List.mem_of_getElem? (i := 105) rfl))) (Or.inl (hw _ (List.mem_of_getElem? (i := 101) rfl))) (by decide) (t := (.object "java/lang/Object")) (t' := .boolean) (by decide) (by decide)))).other W2 (Or.inr (slot_ne (C := "java/util/TreeMap$Entry") (Or.inl (hw _ (List.mem_of_getElem? (i := 105) rfl))) (Or.inl (hw _ (List.mem_of_getElem? (i := 103) rfl))) (by decide) (t := (.object "java/lang/Object")) (t' := (.object "java/lang/Object")) (by decide) (by decide))))
  have sz3 := (Keep.of_wr W3).1
  have N := Fr.snoc X N (by omega)
  refine Gl.by st ?_
  show Gl p e below s _ _ _ (T.setTop (mkF m 19 #[.val (.ref x), .val (.ref k), .val v, .val pa] []))
  refine Gl.by (fun t_ k_ => XS.aloadN X.here hx rfl (hb hby d14_19) rfl rfl k_) ?_
  show Gl p e below s _ _ _ (T.setTop (mkF m 20 #[.val (.ref x), .val (.ref k), .val v, .val pa] [(.ref x)]))
  refine Gl.by (fun t_ k_ => XS.aloadN X.here hx rfl (hb hby d14_20) rfl hpa k_) ?_
  show Gl p e below s _ _ _ (T.setTop (mkF m 21 #[.val (.ref x), .val (.ref k), .val v, .val pa] [pa, (.ref x)]))
  obtain ⟨T, h4, X, eT, W4, st⟩ := putF X hx hZ hown (host := "") (Or.inl (hw _ (List.mem_of_getElem? (i := 106) rfl))) Via.refl eT (((F_parent.other W1 (Or.inr (slot_ne (C := "java/util/TreeMap$Entry") (Or.inl (hw _ (List.mem_of_getElem? (i := 107) rfl))) (Or.inl (hw _ (List.mem_of_getElem? (i := 101) rfl))) (by decide) (t := (.object "java/util/TreeMap$Entry")) (t' := .boolean) (by decide) (by decide)))).other W2 (Or.inr (slot_ne (C := "java/util/TreeMap$Entry") (Or.inl (hw _ (List.mem_of_getElem? (i := 107) rfl))) (Or.inl (hw _ (List.mem_of_getElem? (i := 103) rfl))) (by decide) (t := (.object "java/util/TreeMap$Entry")) (t' := (.object "java/lang/Object")) (by decide) (by decide)))).other W3 (Or.inr (slot_ne (C := "java/util/TreeMap$Entry") (Or.inl (hw _ (List.mem_of_getElem? (i := 107) rfl))) (Or.inl (hw _ (List.mem_of_getElem? (i := 105) rfl))) (by decide) (t := (.object "java/util/TreeMap$Entry")) (t' := (.object "java/lang/Object")) (by decide) (by decide)))) (((E.wr W1).wr W2).wr W3) (Or.inl (hw _ (List.mem_of_getElem? (i := 107) rfl))) (hw _ (List.mem_of_getElem? (i := 93) rfl)) (ty := (.object "java/util/TreeMap$Entry")) (by decide) narR (fitsR hpa) (g := (mkF m 21 #[.val (.ref x), .val (.ref k), .val v, .val pa] [pa, (.ref x)])) rfl rfl (hb hby d14_21)
  have F4_parent : Fld Z h4 x "java/util/TreeMap$Entry" "parent" "Ljava/util/TreeMap$Entry;" pa := Fld.same W4 (((F_parent.other W1 (Or.inr (slot_ne (C := "java/util/TreeMap$Entry") (Or.inl (hw _ (List.mem_of_getElem? (i := 107) rfl))) (Or.inl (hw _ (List.mem_of_getElem? (i := 101) rfl))) (by decide) (t := (.object "java/util/TreeMap$Entry")) (t' := .boolean) (by decide) (by decide)))).other W2 (Or.inr (slot_ne (C := "java/util/TreeMap$Entry") (Or.inl (hw _ (List.mem_of_getElem? (i := 107) rfl))) (Or.inl (hw _ (List.mem_of_getElem? (i := 103) rfl))) (by decide) (t := (.object "java/util/TreeMap$Entry")) (t' := (.object "java/lang/Object")) (by decide) (by decide)))).other W3 (Or.inr (slot_ne (C := "java/util/TreeMap$Entry") (Or.inl (hw _ (List.mem_of_getElem? (i := 107) rfl))) (Or.inl (hw _ (List.mem_of_getElem? (i := 105) rfl))) (by decide) (t := (.object "java/util/TreeMap$Entry")) (t' := (.object "java/lang/Object")) (by decide) (by decide))))
  have sz4 := (Keep.of_wr W4).1
  have N := Fr.snoc X N (by omega)
  refine Gl.by st ?_
  show Gl p e below s _ _ _ (T.setTop (mkF m 24 #[.val (.ref x), .val (.ref k), .val v, .val pa] []))
  refine Gl.retV X hx hlk hret (hb hby d14_24) (by decide) (by decide) ?_
  rw [eT]
  exact ⟨rfl, N, (((((Keep.refl h0 [x]).wr W1 (Or.inl (by simp))).wr W2 (Or.inl (by simp))).wr W3 (Or.inl (by simp))).wr W4 (Or.inl (by simp))), ((((E.wr W1).wr W2).wr W3).wr W4), ((F2_key.other W3 (Or.inr (slot_ne (C := "java/util/TreeMap$Entry") (Or.inl (hw _ (List.mem_of_getElem? (i := 103) rfl))) (Or.inl (hw _ (List.mem_of_getElem? (i := 105) rfl))) (by decide) (t := (.object "java/lang/Object")) (t' := (.object "java/lang/Object")) (by decide) (by decide)))).other W4 (Or.inr (slot_ne (C := "java/util/TreeMap$Entry") (Or.inl (hw _ (List.mem_of_getElem? (i := 103) rfl))) (Or.inl (hw _ (List.mem_of_getElem? (i := 107) rfl))) (by decide) (t := (.object "java/lang/Object")) (t' := (.object "java/util/TreeMap$Entry")) (by decide) (by decide)))), (F3_value.other W4 (Or.inr (slot_ne (C := "java/util/TreeMap$Entry") (Or.inl (hw _ (List.mem_of_getElem? (i := 105) rfl))) (Or.inl (hw _ (List.mem_of_getElem? (i := 107) rfl))) (by decide) (t := (.object "java/lang/Object")) (t' := (.object "java/util/TreeMap$Entry")) (by decide) (by decide)))), ((((F_left.other W1 (Or.inr (slot_ne (C := "java/util/TreeMap$Entry") (Or.inl (hw _ (List.mem_of_getElem? (i := 201) rfl))) (Or.inl (hw _ (List.mem_of_getElem? (i := 101) rfl))) (by decide) (t := (.object "java/util/TreeMap$Entry")) (t' := .boolean) (by decide) (by decide)))).other W2 (Or.inr (slot_ne (C := "java/util/TreeMap$Entry") (Or.inl (hw _ (List.mem_of_getElem? (i := 201) rfl))) (Or.inl (hw _ (List.mem_of_getElem? (i := 103) rfl))) (by decide) (t := (.object "java/util/TreeMap$Entry")) (t' := (.object "java/lang/Object")) (by decide) (by decide)))).other W3 (Or.inr (slot_ne (C := "java/util/TreeMap$Entry") (Or.inl (hw _ (List.mem_of_getElem? (i := 201) rfl))) (Or.inl (hw _ (List.mem_of_getElem? (i := 105) rfl))) (by decide) (t := (.object "java/util/TreeMap$Entry")) (t' := (.object "java/lang/Object")) (by decide) (by decide)))).other W4 (Or.inr (slot_ne (C := "java/util/TreeMap$Entry") (Or.inl (hw _ (List.mem_of_getElem? (i := 201) rfl))) (Or.inl (hw _ (List.mem_of_getElem? (i := 107) rfl))) (by decide) (t := (.object "java/util/TreeMap$Entry")) (t' := (.object "java/util/TreeMap$Entry")) (by decide) (by decide)))), ((((F_right.other W1 (Or.inr (slot_ne (C := "java/util/TreeMap$Entry") (Or.inl (hw _ (List.mem_of_getElem? (i := 176) rfl))) (Or.inl (hw _ (List.mem_of_getElem? (i := 101) rfl))) (by decide) (t := (.object "java/util/TreeMap$Entry")) (t' := .boolean) (by decide) (by decide)))).other W2 (Or.inr (slot_ne (C := "java/util/TreeMap$Entry") (Or.inl (hw _ (List.mem_of_getElem? (i := 176) rfl))) (Or.inl (hw _ (List.mem_of_getElem? (i := 103) rfl))) (by decide) (t := (.object "java/util/TreeMap$Entry")) (t' := (.object "java/lang/Object")) (by decide) (by decide)))).other W3 (Or.inr (slot_ne (C := "java/util/TreeMap$Entry") (Or.inl (hw _ (List.mem_of_getElem? (i := 176) rfl))) (Or.inl (hw _ (List.mem_of_getElem? (i := 105) rfl))) (by decide) (t := (.object "java/util/TreeMap$Entry")) (t' := (.object "java/lang/Object")) (by decide) (by decide)))).other W4 (Or.inr (slot_ne (C := "java/util/TreeMap$Entry") (Or.inl (hw _ (List.mem_of_getElem? (i := 176) rfl))) (Or.inl (hw _ (List.mem_of_getElem? (i := 107) rfl))) (by decide) (t := (.object "java/util/TreeMap$Entry")) (t' := (.object "java/util/TreeMap$Entry")) (by decide) (by decide)))), F4_parent, (((F1_color.other W2 (Or.inr (slot_ne (C := "java/util/TreeMap$Entry") (Or.inl (hw _ (List.mem_of_getElem? (i := 101) rfl))) (Or.inl (hw _ (List.mem_of_getElem? (i := 103) rfl))) (by decide) (t := .boolean) (t' := (.object "java/lang/Object")) (by decide) (by decide)))).other W3 (Or.inr (slot_ne (C := "java/util/TreeMap$Entry") (Or.inl (hw _ (List.mem_of_getElem? (i := 101) rfl))) (Or.inl (hw _ (List.mem_of_getElem? (i := 105) rfl))) (by decide) (t := .boolean) (t' := (.object "java/lang/Object")) (by decide) (by decide)))).other W4 (Or.inr (slot_ne (C := "java/util/TreeMap$Entry") (Or.inl (hw _ (List.mem_of_getElem? (i := 101) rfl))) (Or.inl (hw _ (List.mem_of_getElem? (i := 107) rfl))) (by decide) (t := .boolean) (t' := (.object "java/util/TreeMap$Entry")) (by decide) (by decide))))⟩
set_option maxRecDepth 65536 in
set_option maxHeartbeats 40000000 in
theorem own_ade (l : Launch) (Z : State) (a0 : Array Value) (hw : ∀ d ∈ tables_1, d.before a0 Z = true) (t k : Nat) (i mc : Int32) (v : Value) (h0 : Heap) (n0 : Nat) (Z0 : n0 ≤ h0.size) (Z1 : n0 ≤ t) (ht : Tmo Z h0 t .null 0 mc) (hk : IntO Z h0 k i) (hv : v.isRef = true) :
    Ctr l Z (⟨"java/util/TreeMap", "addEntryToEmptyMap", "(Ljava/lang/Object;Ljava/lang/Object;)V"⟩ : MethodName) jdk_2729_method_30_code 3 none [] own_rAE #[(.ref t), (.ref k), v] h0 (fun w h L => w = none ∧ Fr n0 L ∧ Keep h0 h [t] ∧ ∃ r : Nat, h0.size ≤ r ∧ Map1 Z h t r k i v) := by
  refine Ctr.intro pn_3 #[.val (.ref t), .val (.ref k), .val v] (fun m => by rcases ref_cases hv with rfl | ⟨_, rfl⟩ <;> rfl) ?_
  intro p e s m below meth c T hx hby hml hown hnm hret hlk hZ X eT
  have hown : s.vm.findClass "java/util/TreeMap" = some m.cls := hown
  have N := Fr.nil n0
  have lt : t < h0.size := ht.1.lt
  have lk : k < h0.size := hk.1.lt
  show Gl p e below s _ _ _ (T.setTop (mkF m 0 #[.val (.ref t), .val (.ref k), .val v] []))
  refine Gl.by (fun t_ k_ => XS.aloadN X.here hx rfl (hb hby d9_0) rfl rfl k_) ?_
  show Gl p e below s _ _ _ (T.setTop (mkF m 1 #[.val (.ref t), .val (.ref k), .val v] [(.ref t)]))
  refine Gl.by (fun t_ k_ => XS.aloadN X.here hx rfl (hb hby d9_1) rfl rfl k_) ?_
  show Gl p e below s _ _ _ (T.setTop (mkF m 2 #[.val (.ref t), .val (.ref k), .val v] [(.ref k), (.ref t)]))
  refine Gl.by (fun t_ k_ => XS.aloadN X.here hx rfl (hb hby d9_2) rfl rfl k_) ?_
  show Gl p e below s _ _ _ (T.setTop (mkF m 3 #[.val (.ref t), .val (.ref k), .val v] [(.ref k), (.ref k), (.ref t)]))
  refine Gl.virt X hx hZ hown (hw _ (List.mem_of_getElem? (i := 65) rfl)) (hw _ (List.mem_of_getElem? (i := 66) rfl)) (hw _ (List.mem_of_getElem? (i := 68) rfl)) (hw _ (List.mem_of_getElem? (i := 67) rfl)) (notFace_of_selects (args := #[]) (mvT hZ (hw _ (List.mem_of_getElem? (i := 68) rfl)))) (by decide) ht.1 (W := 0) (backC (own_tcmp l Z a0 hw t k k i i h0 n0 ht.2.1 hk hk) hZ (hw _ (List.mem_of_getElem? (i := 69) rfl)) (hw _ (List.mem_of_getElem? (i := 19) rfl)) (by decide) (by decide)) eT (hb hby d9_3) (by rw [hml]; rfl) [(.ref k), (.ref k)] [] (lenOf pd_5 rfl) rfl rfl (Nat.le_of_eq rfl) (by decide) (by decide) ?_
  intro v T L X hq
  obtain ⟨rfl, rfl, eT⟩ := hq
  have N := Fr.app N (Fr.nil n0)
  show Gl p e below s _ _ _ (T.setTop (mkF m 6 #[.val (.ref t), .val (.ref k), .val v] [(.int (cmp i i))]))
  refine Gl.by (fun t_ k_ => XS.pop X.here hx rfl (hb hby d9_6) rfl rfl k_) ?_
  show Gl p e below s _ _ _ (T.setTop (mkF m 7 #[.val (.ref t), .val (.ref k), .val v] []))
  refine Gl.by (fun t_ k_ => XS.aloadN X.here hx rfl (hb hby d9_7) rfl rfl k_) ?_
  show Gl p e below s _ _ _ (T.setTop (mkF m 8 #[.val (.ref t), .val (.ref k), .val v] [(.ref t)]))
  obtain ⟨T, h1, X, eT, E1, A1, D1, -, st⟩ := newO X hx hZ hown (hw _ (List.mem_of_getElem? (i := 92) rfl)) (hw _ (List.mem_of_getElem? (i := 93) rfl)) (hw _ (List.mem_of_getElem? (i := 94) rfl)) eT (g := (mkF m 8 #[.val (.ref t), .val (.ref k), .val v] [(.ref t)])) rfl (hb hby d9_8) (by decide) (by decide)
  obtain ⟨en, g1⟩ : ∃ z, z = h0.size := ⟨_, rfl⟩
  rw [← g1] at A1 D1 st
  have sz1 := E1.1
  have lt1 : en < h1.size := A1.lt
  refine Gl.by st ?_
  have F1_key : Fld Z h1 en "java/util/TreeMap$Entry" "key" "Ljava/lang/Object;" .null := D1 (Or.inl (hw _ (List.mem_of_getElem? (i := 103) rfl))) (ty := (.object "java/lang/Object")) (by decide)
  have F1_value : Fld Z h1 en "java/util/TreeMap$Entry" "value" "Ljava/lang/Object;" .null := D1 (Or.inl (hw _ (List.mem_of_getElem? (i := 105) rfl))) (ty := (.object "java/lang/Object")) (by decide)
  have F1_left : Fld Z h1 en "java/util/TreeMap$Entry" "left" "Ljava/util/TreeMap$Entry;" .null := D1 (Or.inl (hw _ (List.mem_of_getElem? (i := 201) rfl))) (ty := (.object "java/util/TreeMap$Entry")) (by decide)
  have F1_right : Fld Z h1 en "java/util/TreeMap$Entry" "right" "Ljava/util/TreeMap$Entry;" .null := D1 (Or.inl (hw _ (List.mem_of_getElem? (i := 176) rfl))) (ty := (.object "java/util/TreeMap$Entry")) (by decide)
  have F1_parent : Fld Z h1 en "java/util/TreeMap$Entry" "parent" "Ljava/util/TreeMap$Entry;" .null := D1 (Or.inl (hw _ (List.mem_of_getElem? (i := 107) rfl))) (ty := (.object "java/util/TreeMap$Entry")) (by decide)
  have F1_color : Fld Z h1 en "java/util/TreeMap$Entry" "color" "Z" (.int (0 : Int32)) := D1 (Or.inl (hw _ (List.mem_of_getElem? (i := 101) rfl))) (ty := .boolean) (by decide)
  show Gl p e below s _ _ _ (T.setTop (mkF m 11 #[.val (.ref t), .val (.ref k), .val v] [(.ref en), (.ref t)]))
  refine Gl.by (fun t_ k_ => XS.dup X.here hx rfl (hb hby d9_11) rfl rfl k_) ?_
  show Gl p e below s _ _ _ (T.setTop (mkF m 12 #[.val (.ref t), .val (.ref k), .val v] [(.ref en), (.ref en), (.ref t)]))
  refine Gl.by (fun t_ k_ => XS.aloadN X.here hx rfl (hb hby d9_12) rfl rfl k_) ?_
  show Gl p e below s _ _ _ (T.setTop (mkF m 13 #[.val (.ref t), .val (.ref k), .val v] [(.ref k), (.ref en), (.ref en), (.ref t)]))
  refine Gl.by (fun t_ k_ => XS.aloadN X.here hx rfl (hb hby d9_13) rfl hv k_) ?_
  show Gl p e below s _ _ _ (T.setTop (mkF m 14 #[.val (.ref t), .val (.ref k), .val v] [v, (.ref k), (.ref en), (.ref en), (.ref t)]))
  refine Gl.by (fun t_ k_ => XS.aconstNull X.here hx rfl (hb hby d9_14) k_) ?_
  show Gl p e below s _ _ _ (T.setTop (mkF m 15 #[.val (.ref t), .val (.ref k), .val v] [.null, v, (.ref k), (.ref en), (.ref en), (.ref t)]))
  refine Gl.spec X hx hZ rfl hown (hw _ (List.mem_of_getElem? (i := 95) rfl)) (hw _ (List.mem_of_getElem? (i := 96) rfl)) (hw _ (List.mem_of_getElem? (i := 98) rfl)) (by decide) (W := 2) (backC (own_eni l Z a0 hw en k v .null h1 n0 (by omega) hv rfl A1 F1_key F1_value F1_left F1_right F1_parent F1_color) hZ (hw _ (List.mem_of_getElem? (i := 98) rfl)) (hw _ (List.mem_of_getElem? (i := 94) rfl)) (by decide) (by decide)) eT (hb hby d9_15) (by rw [hml]; rfl) en [(.ref k), v, .null] [(.ref en), (.ref t)] (lenOf pd_6 rfl) rfl rfl (Nat.le_of_eq rfl) (by decide) (by decide) ?_
  intro v T L X hq
  obtain ⟨rfl, NQ, K2, E2, F2_key, F2_value, F2_left, F2_right, F2_parent, F2_color⟩ := hq
  have N := Fr.app N NQ
  obtain ⟨h2, eT⟩ : ∃ z, T.heap = z := ⟨_, rfl⟩
  rw [eT] at K2 E2 F2_key F2_value F2_left F2_right F2_parent F2_color
  have sz2 := K2.1
  show Gl p e below s _ _ _ (T.setTop (mkF m 18 #[.val (.ref t), .val (.ref k), .val v] [(.ref en), (.ref t)]))
  obtain ⟨T, h3, X, eT, W3, st⟩ := putF X hx hZ hown (host := "") (Or.inl (hw _ (List.mem_of_getElem? (i := 58) rfl))) Via.refl eT ((ht.2.2.1.ext E1).keep K2 (ninS (ne_exa (ht.1.ext E1) A1 (by decide)) nin0)) ((ht.1.ext E1).keep K2) (Or.inl (hw _ (List.mem_of_getElem? (i := 59) rfl))) (hw _ (List.mem_of_getElem? (i := 18) rfl)) (ty := (.object "java/util/TreeMap$Entry")) (by decide) rfl rfl (g := (mkF m 18 #[.val (.ref t), .val (.ref k), .val v] [(.ref en), (.ref t)])) rfl rfl (hb hby d9_18)
  have F3_root : Fld Z h3 t "java/util/TreeMap" "root" "Ljava/util/TreeMap$Entry;" (.ref en) := Fld.same W3 ((ht.2.2.1.ext E1).keep K2 (ninS (ne_exa (ht.1.ext E1) A1 (by decide)) nin0))
  have sz3 := (Keep.of_wr W3).1
  have N := Fr.snoc X N (by omega)
  refine Gl.by st ?_
  show Gl p e below s _ _ _ (T.setTop (mkF m 21 #[.val (.ref t), .val (.ref k), .val v] []))
  refine Gl.by (fun t_ k_ => XS.aloadN X.here hx rfl (hb hby d9_21) rfl rfl k_) ?_
  show Gl p e below s _ _ _ (T.setTop (mkF m 22 #[.val (.ref t), .val (.ref k), .val v] [(.ref t)]))
  refine Gl.by (fun t_ k_ => XS.iconst X.here hx rfl (hb hby d9_22) k_) ?_
  show Gl p e below s _ _ _ (T.setTop (mkF m 23 #[.val (.ref t), .val (.ref k), .val v] [(.int (1 : Int32)), (.ref t)]))
  obtain ⟨T, h4, X, eT, W4, st⟩ := putF X hx hZ hown (host := "") (Or.inl (hw _ (List.mem_of_getElem? (i := 30) rfl))) Via.refl eT (((ht.2.2.2.1.ext E1).keep K2 (ninS (ne_exa (ht.1.ext E1) A1 (by decide)) nin0)).other W3 (Or.inr (slot_ne (C := "java/util/TreeMap") (Or.inl (hw _ (List.mem_of_getElem? (i := 31) rfl))) (Or.inl (hw _ (List.mem_of_getElem? (i := 59) rfl))) (by decide) (t := .int) (t' := (.object "java/util/TreeMap$Entry")) (by decide) (by decide)))) (((ht.1.ext E1).keep K2).wr W3) (Or.inl (hw _ (List.mem_of_getElem? (i := 31) rfl))) (hw _ (List.mem_of_getElem? (i := 18) rfl)) (ty := .int) (by decide) rfl rfl (g := (mkF m 23 #[.val (.ref t), .val (.ref k), .val v] [(.int (1 : Int32)), (.ref t)])) rfl rfl (hb hby d9_23)
  have F4_size : Fld Z h4 t "java/util/TreeMap" "size" "I" (.int (1 : Int32)) := Fld.same W4 (((ht.2.2.2.1.ext E1).keep K2 (ninS (ne_exa (ht.1.ext E1) A1 (by decide)) nin0)).other W3 (Or.inr (slot_ne (C := "java/util/TreeMap") (Or.inl (hw _ (List.mem_of_getElem? (i := 31) rfl))) (Or.inl (hw _ (List.mem_of_getElem? (i := 59) rfl))) (by decide) (t := .int) (t' := (.object "java/util/TreeMap$Entry")) (by decide) (by decide))))
  have sz4 := (Keep.of_wr W4).1
  have N := Fr.snoc X N (by omega)
  refine Gl.by st ?_
  show Gl p e below s _ _ _ (T.setTop (mkF m 26 #[.val (.ref t), .val (.ref k), .val v] []))
  refine Gl.by (fun t_ k_ => XS.aloadN X.here hx rfl (hb hby d9_26) rfl rfl k_) ?_
  show Gl p e below s _ _ _ (T.setTop (mkF m 27 #[.val (.ref t), .val (.ref k), .val v] [(.ref t)]))
  refine Gl.by (fun t_ k_ => XS.dup X.here hx rfl (hb hby d9_27) rfl rfl k_) ?_
  show Gl p e below s _ _ _ (T.setTop (mkF m 28 #[.val (.ref t), .val (.ref k), .val v] [(.ref t), (.ref t)]))
  obtain ⟨T, X, eT, st⟩ := getF X hx hZ hown (host := "") (Or.inl (hw _ (List.mem_of_getElem? (i := 32) rfl))) Via.refl eT ((((ht.2.2.2.2.ext E1).keep K2 (ninS (ne_exa (ht.1.ext E1) A1 (by decide)) nin0)).other W3 (Or.inr (slot_ne (C := "java/util/TreeMap") (Or.inl (hw _ (List.mem_of_getElem? (i := 33) rfl))) (Or.inl (hw _ (List.mem_of_getElem? (i := 59) rfl))) (by decide) (t := .int) (t' := (.object "java/util/TreeMap$Entry")) (by decide) (by decide)))).other W4 (Or.inr (slot_ne (C := "java/util/TreeMap") (Or.inl (hw _ (List.mem_of_getElem? (i := 33) rfl))) (Or.inl (hw _ (List.mem_of_getElem? (i := 31) rfl))) (by decide) (t := .int) (t' := .int) (by decide) (by decide)))) (g := (mkF m 28 #[.val (.ref t), .val (.ref k), .val v] [(.ref t), (.ref t)])) rfl rfl (hb hby d9_28)
  refine Gl.by st ?_
  show Gl p e below s _ _ _ (T.setTop (mkF m 31 #[.val (.ref t), .val (.ref k), .val v] [(.int mc), (.ref t)]))
  refine Gl.by (fun t_ k_ => XS.iconst X.here hx rfl (hb hby d9_31) k_) ?_
  show Gl p e below s _ _ _ (T.setTop (mkF m 32 #[.val (.ref t), .val (.ref k), .val v] [(.int (1 : Int32)), (.int mc), (.ref t)]))
  refine Gl.by (fun t_ k_ => XS.iadd X.here hx rfl (hb hby d9_32) rfl k_) ?_
  show Gl p e below s _ _ _ (T.setTop (mkF m 33 #[.val (.ref t), .val (.ref k), .val v] [(.int (mc + (1 : Int32))), (.ref t)]))
  obtain ⟨T, h5, X, eT, W5, st⟩ := putF X hx hZ hown (host := "") (Or.inl (hw _ (List.mem_of_getElem? (i := 32) rfl))) Via.refl eT ((((ht.2.2.2.2.ext E1).keep K2 (ninS (ne_exa (ht.1.ext E1) A1 (by decide)) nin0)).other W3 (Or.inr (slot_ne (C := "java/util/TreeMap") (Or.inl (hw _ (List.mem_of_getElem? (i := 33) rfl))) (Or.inl (hw _ (List.mem_of_getElem? (i := 59) rfl))) (by decide) (t := .int) (t' := (.object "java/util/TreeMap$Entry")) (by decide) (by decide)))).other W4 (Or.inr (slot_ne (C := "java/util/TreeMap") (Or.inl (hw _ (List.mem_of_getElem? (i := 33) rfl))) (Or.inl (hw _ (List.mem_of_getElem? (i := 31) rfl))) (by decide) (t := .int) (t' := .int) (by decide) (by decide)))) ((((ht.1.ext E1).keep K2).wr W3).wr W4) (Or.inl (hw _ (List.mem_of_getElem? (i := 33) rfl))) (hw _ (List.mem_of_getElem? (i := 18) rfl)) (ty := .int) (by decide) rfl rfl (g := (mkF m 33 #[.val (.ref t), .val (.ref k), .val v] [(.int (mc + (1 : Int32))), (.ref t)])) rfl rfl (hb hby d9_33)
  have F5_modCount : Fld Z h5 t "java/util/TreeMap" "modCount" "I" (.int (mc + (1 : Int32))) := Fld.same W5 ((((ht.2.2.2.2.ext E1).keep K2 (ninS (ne_exa (ht.1.ext E1) A1 (by decide)) nin0)).other W3 (Or.inr (slot_ne (C := "java/util/TreeMap") (Or.inl (hw _ (List.mem_of_getElem? (i := 33) rfl))) (Or.inl (hw _ (List.mem_of_getElem? (i := 59) rfl))) (by decide) (t := .int) (t' := (.object "java/util/TreeMap$Entry")) (by decide) (by decide)))).other W4 (Or.inr (slot_ne (C := "java/util/TreeMap") (Or.inl (hw _ (List.mem_of_getElem? (i := 33) rfl))) (Or.inl (hw _ (List.mem_of_getElem? (i := 31) rfl))) (by decide) (t := .int) (t' := .int) (by decide) (by decide))))
  have sz5 := (Keep.of_wr W5).1
  have N := Fr.snoc X N (by omega)
  refine Gl.by st ?_
  show Gl p e below s _ _ _ (T.setTop (mkF m 36 #[.val (.ref t), .val (.ref k), .val v] []))
  refine Gl.retV X hx hlk hret (hb hby d9_36) (by decide) (by decide) ?_
  rw [eT]
  exact ⟨rfl, N, ((((((Keep.refl h0 [t]).ext E1).trans K2 (allS (Or.inr (by omega)) all0)).wr W3 (Or.inl (by simp))).wr W4 (Or.inl (by simp))).wr W5 (Or.inl (by simp))), en, by omega, _, ⟨(((((ht.1.ext E1).keep K2).wr W3).wr W4).wr W5), (((((ht.2.1.ext E1).keep K2 (ninS (ne_exa (ht.1.ext E1) A1 (by decide)) nin0)).other W3 (Or.inr (slot_ne (C := "java/util/TreeMap") (Or.inr (hw _ (List.mem_of_getElem? (i := 35) rfl))) (Or.inl (hw _ (List.mem_of_getElem? (i := 59) rfl))) (by decide) (t := (.object "java/util/Comparator")) (t' := (.object "java/util/TreeMap$Entry")) (by decide) (by decide)))).other W4 (Or.inr (slot_ne (C := "java/util/TreeMap") (Or.inr (hw _ (List.mem_of_getElem? (i := 35) rfl))) (Or.inl (hw _ (List.mem_of_getElem? (i := 31) rfl))) (by decide) (t := (.object "java/util/Comparator")) (t' := .int) (by decide) (by decide)))).other W5 (Or.inr (slot_ne (C := "java/util/TreeMap") (Or.inr (hw _ (List.mem_of_getElem? (i := 35) rfl))) (Or.inl (hw _ (List.mem_of_getElem? (i := 33) rfl))) (by decide) (t := (.object "java/util/Comparator")) (t' := .int) (by decide) (by decide)))), ((F3_root.other W4 (Or.inr (slot_ne (C := "java/util/TreeMap") (Or.inl (hw _ (List.mem_of_getElem? (i := 59) rfl))) (Or.inl (hw _ (List.mem_of_getElem? (i := 31) rfl))) (by decide) (t := (.object "java/util/TreeMap$Entry")) (t' := .int) (by decide) (by decide)))).other W5 (Or.inr (slot_ne (C := "java/util/TreeMap") (Or.inl (hw _ (List.mem_of_getElem? (i := 59) rfl))) (Or.inl (hw _ (List.mem_of_getElem? (i := 33) rfl))) (by decide) (t := (.object "java/util/TreeMap$Entry")) (t' := .int) (by decide) (by decide)))), (F4_size.other W5 (Or.inr (slot_ne (C := "java/util/TreeMap") (Or.inl (hw _ (List.mem_of_getElem? (i := 31) rfl))) (Or.inl (hw _ (List.mem_of_getElem? (i := 33) rfl))) (by decide) (t := .int) (t' := .int) (by decide) (by decide)))), F5_modCount⟩, ⟨((((A1.keep K2).wr W3).wr W4).wr W5), (((F2_key.other W3 (Or.inl (ne_exa (A1.keep K2) ((ht.1.ext E1).keep K2) (by decide)))).other W4 (Or.inl (ne_exa ((A1.keep K2).wr W3) (((ht.1.ext E1).keep K2).wr W3) (by decide)))).other W5 (Or.inl (ne_exa (((A1.keep K2).wr W3).wr W4) ((((ht.1.ext E1).keep K2).wr W3).wr W4) (by decide)))), (((F2_value.other W3 (Or.inl (ne_exa (A1.keep K2) ((ht.1.ext E1).keep K2) (by decide)))).other W4 (Or.inl (ne_exa ((A1.keep K2).wr W3) (((ht.1.ext E1).keep K2).wr W3) (by decide)))).other W5 (Or.inl (ne_exa (((A1.keep K2).wr W3).wr W4) ((((ht.1.ext E1).keep K2).wr W3).wr W4) (by decide)))), (((F2_left.other W3 (Or.inl (ne_exa (A1.keep K2) ((ht.1.ext E1).keep K2) (by decide)))).other W4 (Or.inl (ne_exa ((A1.keep K2).wr W3) (((ht.1.ext E1).keep K2).wr W3) (by decide)))).other W5 (Or.inl (ne_exa (((A1.keep K2).wr W3).wr W4) ((((ht.1.ext E1).keep K2).wr W3).wr W4) (by decide)))), (((F2_right.other W3 (Or.inl (ne_exa (A1.keep K2) ((ht.1.ext E1).keep K2) (by decide)))).other W4 (Or.inl (ne_exa ((A1.keep K2).wr W3) (((ht.1.ext E1).keep K2).wr W3) (by decide)))).other W5 (Or.inl (ne_exa (((A1.keep K2).wr W3).wr W4) ((((ht.1.ext E1).keep K2).wr W3).wr W4) (by decide)))), (((F2_parent.other W3 (Or.inl (ne_exa (A1.keep K2) ((ht.1.ext E1).keep K2) (by decide)))).other W4 (Or.inl (ne_exa ((A1.keep K2).wr W3) (((ht.1.ext E1).keep K2).wr W3) (by decide)))).other W5 (Or.inl (ne_exa (((A1.keep K2).wr W3).wr W4) ((((ht.1.ext E1).keep K2).wr W3).wr W4) (by decide)))), (((F2_color.other W3 (Or.inl (ne_exa (A1.keep K2) ((ht.1.ext E1).keep K2) (by decide)))).other W4 (Or.inl (ne_exa ((A1.keep K2).wr W3) (((ht.1.ext E1).keep K2).wr W3) (by decide)))).other W5 (Or.inl (ne_exa (((A1.keep K2).wr W3).wr W4) ((((ht.1.ext E1).keep K2).wr W3).wr W4) (by decide)))), ⟨(((((hk.1.ext E1).keep K2).wr W3).wr W4).wr W5), (((((hk.2.ext E1).keep K2 (ninS (ne_exa (hk.1.ext E1) A1 (by decide)) nin0)).other W3 (Or.inl (ne_exa ((hk.1.ext E1).keep K2) ((ht.1.ext E1).keep K2) (by decide)))).other W4 (Or.inl (ne_exa (((hk.1.ext E1).keep K2).wr W3) (((ht.1.ext E1).keep K2).wr W3) (by decide)))).other W5 (Or.inl (ne_exa ((((hk.1.ext E1).keep K2).wr W3).wr W4) ((((ht.1.ext E1).keep K2).wr W3).wr W4) (by decide))))⟩, hv⟩⟩
set_option maxRecDepth 65536 in
set_option maxHeartbeats 40000000 in
theorem own_fix (l : Launch) (Z : State) (a0 : Array Value) (hw : ∀ d ∈ tables_1, d.before a0 Z = true) (t en r k k1 : Nat) (v v1 lf rg : Value) (sz mc : Int32) (h0 : Heap) (n0 : Nat) (Z0 : n0 ≤ en) (Z1 : n0 ≤ r) (hne : r < en) (ht : Tmo Z h0 t (.ref r) sz mc) (Een : Exa Z h0 en "java/util/TreeMap$Entry") (Fen_key : Fld Z h0 en "java/util/TreeMap$Entry" "key" "Ljava/lang/Object;" (.ref k)) (Fen_value : Fld Z h0 en "java/util/TreeMap$Entry" "value" "Ljava/lang/Object;" v) (Fen_left : Fld Z h0 en "java/util/TreeMap$Entry" "left" "Ljava/util/TreeMap$Entry;" .null) (Fen_right : Fld Z h0 en "java/util/TreeMap$Entry" "right" "Ljava/util/TreeMap$Entry;" .null) (Fen_parent : Fld Z h0 en "java/util/TreeMap$Entry" "parent" "Ljava/util/TreeMap$Entry;" (.ref r)) (Fen_color : Fld Z h0 en "java/util/TreeMap$Entry" "color" "Z" (.int 1)) (Er : Exa Z h0 r "java/util/TreeMap$Entry") (Fr_key : Fld Z h0 r "java/util/TreeMap$Entry" "key" "Ljava/lang/Object;" (.ref k1)) (Fr_value : Fld Z h0 r "java/util/TreeMap$Entry" "value" "Ljava/lang/Object;" v1) (Fr_left : Fld Z h0 r "java/util/TreeMap$Entry" "left" "Ljava/util/TreeMap$Entry;" lf) (Fr_right : Fld Z h0 r "java/util/TreeMap$Entry" "right" "Ljava/util/TreeMap$Entry;" rg) (Fr_parent : Fld Z h0 r "java/util/TreeMap$Entry" "parent" "Ljava/util/TreeMap$Entry;" .null) (Fr_color : Fld Z h0 r "java/util/TreeMap$Entry" "color" "Z" (.int 1)) :
    Ctr l Z (⟨"java/util/TreeMap", "fixAfterInsertion", "(Ljava/util/TreeMap$Entry;)V"⟩ : MethodName) jdk_2729_method_83_code 3 none [] own_rFX #[(.ref t), (.ref en)] h0 (fun w h L => w = none ∧ Fr n0 L ∧ Keep h0 h [en, r] ∧ Exa Z h en "java/util/TreeMap$Entry" ∧ Fld Z h en "java/util/TreeMap$Entry" "key" "Ljava/lang/Object;" (.ref k) ∧ Fld Z h en "java/util/TreeMap$Entry" "value" "Ljava/lang/Object;" v ∧ Fld Z h en "java/util/TreeMap$Entry" "left" "Ljava/util/TreeMap$Entry;" .null ∧ Fld Z h en "java/util/TreeMap$Entry" "right" "Ljava/util/TreeMap$Entry;" .null ∧ Fld Z h en "java/util/TreeMap$Entry" "parent" "Ljava/util/TreeMap$Entry;" (.ref r) ∧ Fld Z h en "java/util/TreeMap$Entry" "color" "Z" (.int 0) ∧ Exa Z h r "java/util/TreeMap$Entry" ∧ Fld Z h r "java/util/TreeMap$Entry" "key" "Ljava/lang/Object;" (.ref k1) ∧ Fld Z h r "java/util/TreeMap$Entry" "value" "Ljava/lang/Object;" v1 ∧ Fld Z h r "java/util/TreeMap$Entry" "left" "Ljava/util/TreeMap$Entry;" lf ∧ Fld Z h r "java/util/TreeMap$Entry" "right" "Ljava/util/TreeMap$Entry;" rg ∧ Fld Z h r "java/util/TreeMap$Entry" "parent" "Ljava/util/TreeMap$Entry;" .null ∧ Fld Z h r "java/util/TreeMap$Entry" "color" "Z" (.int 1)) := by
  refine Ctr.intro pn_3 #[.val (.ref t), .val (.ref en), .unset] (fun m => by first | rfl | (simp [entryFrame, mkF, argsToLocals, Value.category]; done)) ?_
  intro p e s m below meth c T hx hby hml hown hnm hret hlk hZ X eT
  have hown : s.vm.findClass "java/util/TreeMap" = some m.cls := hown
  have N := Fr.nil n0
  show Gl p e below s _ _ _ (T.setTop (mkF m 0 #[.val (.ref t), .val (.ref en), .unset] []))
  refine Gl.by (fun t_ k_ => XS.aloadN X.here hx rfl (hb hby d26_0) rfl rfl k_) ?_
  show Gl p e below s _ _ _ (T.setTop (mkF m 1 #[.val (.ref t), .val (.ref en), .unset] [(.ref en)]))
  refine Gl.by (fun t_ k_ => XS.iconst X.here hx rfl (hb hby d26_1) k_) ?_
  show Gl p e below s _ _ _ (T.setTop (mkF m 2 #[.val (.ref t), .val (.ref en), .unset] [(.int (0 : Int32)), (.ref en)]))
  obtain ⟨T, h1, X, eT, W1, st⟩ := putF X hx hZ hown (host := "") (Or.inl (hw _ (List.mem_of_getElem? (i := 187) rfl))) Via.refl eT Fen_color Een (Or.inl (hw _ (List.mem_of_getElem? (i := 101) rfl))) (hw _ (List.mem_of_getElem? (i := 93) rfl)) (ty := .boolean) (by decide) rfl rfl (g := (mkF m 2 #[.val (.ref t), .val (.ref en), .unset] [(.int (0 : Int32)), (.ref en)])) rfl rfl (hb hby d26_2)
  have F1_color : Fld Z h1 en "java/util/TreeMap$Entry" "color" "Z" (.int (0 : Int32)) := Fld.same W1 Fen_color
  have sz1 := (Keep.of_wr W1).1
  have N := Fr.snoc X N (by omega)
  refine Gl.by st ?_
  show Gl p e below s _ _ _ (T.setTop (mkF m 5 #[.val (.ref t), .val (.ref en), .unset] []))
  refine Gl.by (fun t_ k_ => XS.aloadN X.here hx rfl (hb hby d26_5) rfl rfl k_) ?_
  show Gl p e below s _ _ _ (T.setTop (mkF m 6 #[.val (.ref t), .val (.ref en), .unset] [(.ref en)]))
  refine Gl.by (fun t_ k_ => XS.ifnullNo X.here hx rfl (hb hby d26_6) rfl k_) ?_
  show Gl p e below s _ _ _ (T.setTop (mkF m 9 #[.val (.ref t), .val (.ref en), .unset] []))
  refine Gl.by (fun t_ k_ => XS.aloadN X.here hx rfl (hb hby d26_9) rfl rfl k_) ?_
  show Gl p e below s _ _ _ (T.setTop (mkF m 10 #[.val (.ref t), .val (.ref en), .unset] [(.ref en)]))
  refine Gl.by (fun t_ k_ => XS.aloadN X.here hx rfl (hb hby d26_10) rfl rfl k_) ?_
  show Gl p e below s _ _ _ (T.setTop (mkF m 11 #[.val (.ref t), .val (.ref en), .unset] [(.ref t), (.ref en)]))
  obtain ⟨T, X, eT, st⟩ := getF X hx hZ hown (host := "") (Or.inl (hw _ (List.mem_of_getElem? (i := 58) rfl))) Via.refl eT (ht.2.2.1.other W1 (Or.inl (ne_exa ht.1 Een (by decide)))) (g := (mkF m 11 #[.val (.ref t), .val (.ref en), .unset] [(.ref t), (.ref en)])) rfl rfl (hb hby d26_11)
  refine Gl.by st ?_
  show Gl p e below s _ _ _ (T.setTop (mkF m 14 #[.val (.ref t), .val (.ref en), .unset] [(.ref r), (.ref en)]))
  refine Gl.by (fun t_ k_ => Jvm.RoadKit.acmp (g := (mkF m 14 #[.val (.ref t), .val (.ref en), .unset] [(.ref r), (.ref en)])) X hx rfl rfl rfl (pc0 := 14) (pc' := 17) (same := false) rfl (hb hby d26_14) rfl (decide_eq_false (fun q => absurd (Value.ref.inj q) (nea (by omega)))) (by decide) (by decide) k_) ?_
  show Gl p e below s _ _ _ (T.setTop (mkF m 17 #[.val (.ref t), .val (.ref en), .unset] []))
  refine Gl.by (fun t_ k_ => XS.aloadN X.here hx rfl (hb hby d26_17) rfl rfl k_) ?_
  show Gl p e below s _ _ _ (T.setTop (mkF m 18 #[.val (.ref t), .val (.ref en), .unset] [(.ref en)]))
  obtain ⟨T, X, eT, st⟩ := getF X hx hZ hown (host := "") (Or.inl (hw _ (List.mem_of_getElem? (i := 188) rfl))) Via.refl eT (Fen_parent.other W1 (Or.inr (slot_ne (C := "java/util/TreeMap$Entry") (Or.inl (hw _ (List.mem_of_getElem? (i := 107) rfl))) (Or.inl (hw _ (List.mem_of_getElem? (i := 101) rfl))) (by decide) (t := (.object "java/util/TreeMap$Entry")) (t' := .boolean) (by decide) (by decide)))) (g := (mkF m 18 #[.val (.ref t), .val (.ref en), .unset] [(.ref en)])) rfl rfl (hb hby d26_18)
  refine Gl.by st ?_
  show Gl p e below s _ _ _ (T.setTop (mkF m 21 #[.val (.ref t), .val (.ref en), .unset] [(.ref r)]))
  obtain ⟨T, X, eT, st⟩ := getF X hx hZ hown (host := "") (Or.inl (hw _ (List.mem_of_getElem? (i := 187) rfl))) Via.refl eT (Fr_color.other W1 (Or.inl (nea (by omega)))) (g := (mkF m 21 #[.val (.ref t), .val (.ref en), .unset] [(.ref r)])) rfl rfl (hb hby d26_21)
  refine Gl.by st ?_
  show Gl p e below s _ _ _ (T.setTop (mkF m 24 #[.val (.ref t), .val (.ref en), .unset] [(.int 1)]))
  refine Gl.by (fun t_ k_ => XS.ifYes X.here hx rfl (pc0 := 24) (pc' := 258) rfl (hb hby d26_24) rfl ((if0 _ _).trans (feq (by decide : ¬ (1 : Int32) = 0)).2) (by decide) (by decide) k_) ?_
  show Gl p e below s _ _ _ (T.setTop (mkF m 258 #[.val (.ref t), .val (.ref en), .unset] []))
  refine Gl.by (fun t_ k_ => XS.aloadN X.here hx rfl (hb hby d26_258) rfl rfl k_) ?_
  show Gl p e below s _ _ _ (T.setTop (mkF m 259 #[.val (.ref t), .val (.ref en), .unset] [(.ref t)]))
  obtain ⟨T, X, eT, st⟩ := getF X hx hZ hown (host := "") (Or.inl (hw _ (List.mem_of_getElem? (i := 58) rfl))) Via.refl eT (ht.2.2.1.other W1 (Or.inl (ne_exa ht.1 Een (by decide)))) (g := (mkF m 259 #[.val (.ref t), .val (.ref en), .unset] [(.ref t)])) rfl rfl (hb hby d26_259)
  refine Gl.by st ?_
  show Gl p e below s _ _ _ (T.setTop (mkF m 262 #[.val (.ref t), .val (.ref en), .unset] [(.ref r)]))
  refine Gl.by (fun t_ k_ => XS.iconst X.here hx rfl (hb hby d26_262) k_) ?_
  show Gl p e below s _ _ _ (T.setTop (mkF m 263 #[.val (.ref t), .val (.ref en), .unset] [(.int (1 : Int32)), (.ref r)]))
  obtain ⟨T, h2, X, eT, W2, st⟩ := putF X hx hZ hown (host := "") (Or.inl (hw _ (List.mem_of_getElem? (i := 187) rfl))) Via.refl eT (Fr_color.other W1 (Or.inl (nea (by omega)))) (Er.wr W1) (Or.inl (hw _ (List.mem_of_getElem? (i := 101) rfl))) (hw _ (List.mem_of_getElem? (i := 93) rfl)) (ty := .boolean) (by decide) rfl rfl (g := (mkF m 263 #[.val (.ref t), .val (.ref en), .unset] [(.int (1 : Int32)), (.ref r)])) rfl rfl (hb hby d26_263)
  have F2_color : Fld Z h2 r "java/util/TreeMap$Entry" "color" "Z" (.int (1 : Int32)) := Fld.same W2 (Fr_color.other W1 (Or.inl (nea (by omega))))
  have sz2 := (Keep.of_wr W2).1
  have N := Fr.snoc X N (by omega)
  refine Gl.by st ?_
  show Gl p e below s _ _ _ (T.setTop (mkF m 266 #[.val (.ref t), .val (.ref en), .unset] []))
  refine Gl.retV X hx hlk hret (hb hby d26_266) (by decide) (by decide) ?_
  rw [eT]
  exact ⟨rfl, N, (((Keep.refl h0 [en, r]).wr W1 (Or.inl (by simp))).wr W2 (Or.inl (by simp))), ((Een.wr W1).wr W2), ((Fen_key.other W1 (Or.inr (slot_ne (C := "java/util/TreeMap$Entry") (Or.inl (hw _ (List.mem_of_getElem? (i := 103) rfl))) (Or.inl (hw _ (List.mem_of_getElem? (i := 101) rfl))) (by decide) (t := (.object "java/lang/Object")) (t' := .boolean) (by decide) (by decide)))).other W2 (Or.inl (nea (by omega)))), ((Fen_value.other W1 (Or.inr (slot_ne (C := "java/util/TreeMap$Entry") (Or.inl (hw _ (List.mem_of_getElem? (i := 105) rfl))) (Or.inl (hw _ (List.mem_of_getElem? (i := 101) rfl))) (by decide) (t := (.object "java/lang/Object")) (t' := .boolean) (by decide) (by decide)))).other W2 (Or.inl (nea (by omega)))), ((Fen_left.other W1 (Or.inr (slot_ne (C := "java/util/TreeMap$Entry") (Or.inl (hw _ (List.mem_of_getElem? (i := 201) rfl))) (Or.inl (hw _ (List.mem_of_getElem? (i := 101) rfl))) (by decide) (t := (.object "java/util/TreeMap$Entry")) (t' := .boolean) (by decide) (by decide)))).other W2 (Or.inl (nea (by omega)))), ((Fen_right.other W1 (Or.inr (slot_ne (C := "java/util/TreeMap$Entry") (Or.inl (hw _ (List.mem_of_getElem? (i := 176) rfl))) (Or.inl (hw _ (List.mem_of_getElem? (i := 101) rfl))) (by decide) (t := (.object "java/util/TreeMap$Entry")) (t' := .boolean) (by decide) (by decide)))).other W2 (Or.inl (nea (by omega)))), ((Fen_parent.other W1 (Or.inr (slot_ne (C := "java/util/TreeMap$Entry") (Or.inl (hw _ (List.mem_of_getElem? (i := 107) rfl))) (Or.inl (hw _ (List.mem_of_getElem? (i := 101) rfl))) (by decide) (t := (.object "java/util/TreeMap$Entry")) (t' := .boolean) (by decide) (by decide)))).other W2 (Or.inl (nea (by omega)))), (F1_color.other W2 (Or.inl (nea (by omega)))), ((Er.wr W1).wr W2), ((Fr_key.other W1 (Or.inl (nea (by omega)))).other W2 (Or.inr (slot_ne (C := "java/util/TreeMap$Entry") (Or.inl (hw _ (List.mem_of_getElem? (i := 103) rfl))) (Or.inl (hw _ (List.mem_of_getElem? (i := 101) rfl))) (by decide) (t := (.object "java/lang/Object")) (t' := .boolean) (by decide) (by decide)))), ((Fr_value.other W1 (Or.inl (nea (by omega)))).other W2 (Or.inr (slot_ne (C := "java/util/TreeMap$Entry") (Or.inl (hw _ (List.mem_of_getElem? (i := 105) rfl))) (Or.inl (hw _ (List.mem_of_getElem? (i := 101) rfl))) (by decide) (t := (.object "java/lang/Object")) (t' := .boolean) (by decide) (by decide)))), ((Fr_left.other W1 (Or.inl (nea (by omega)))).other W2 (Or.inr (slot_ne (C := "java/util/TreeMap$Entry") (Or.inl (hw _ (List.mem_of_getElem? (i := 201) rfl))) (Or.inl (hw _ (List.mem_of_getElem? (i := 101) rfl))) (by decide) (t := (.object "java/util/TreeMap$Entry")) (t' := .boolean) (by decide) (by decide)))), ((Fr_right.other W1 (Or.inl (nea (by omega)))).other W2 (Or.inr (slot_ne (C := "java/util/TreeMap$Entry") (Or.inl (hw _ (List.mem_of_getElem? (i := 176) rfl))) (Or.inl (hw _ (List.mem_of_getElem? (i := 101) rfl))) (by decide) (t := (.object "java/util/TreeMap$Entry")) (t' := .boolean) (by decide) (by decide)))), ((Fr_parent.other W1 (Or.inl (nea (by omega)))).other W2 (Or.inr (slot_ne (C := "java/util/TreeMap$Entry") (Or.inl (hw _ (List.mem_of_getElem? (i := 107) rfl))) (Or.inl (hw _ (List.mem_of_getElem? (i := 101) rfl))) (by decide) (t := (.object "java/util/TreeMap$Entry")) (t' := .boolean) (by decide) (by decide)))), F2_color⟩
set_option maxRecDepth 65536 in
set_option maxHeartbeats 40000000 in
theorem own_addL (l : Launch) (Z : State) (a0 : Array Value) (hw : ∀ d ∈ tables_1, d.before a0 Z = true) (t k r k1 : Nat) (i i1 mc : Int32) (v v1 : Value) (h0 : Heap) (n0 : Nat) (Z0 : n0 ≤ h0.size) (Zt : n0 ≤ t) (Zr : n0 ≤ r) (ht : Tmo Z h0 t (.ref r) 1 mc) (hr : Nd Z h0 r k1 i1 v1 .null .null .null 1) (hk : IntO Z h0 k i) (hv : v.isRef = true) :
    Ctr l Z (⟨"java/util/TreeMap", "addEntry", "(Ljava/lang/Object;Ljava/lang/Object;Ljava/util/TreeMap$Entry;Z)V"⟩ : MethodName) jdk_2729_method_29_code 6 none [] own_rAD #[(.ref t), (.ref k), v, (.ref r), (.int (1 : Int32))] h0 (fun w h L => w = none ∧ Fr n0 L ∧ Keep h0 h [t, r] ∧ ∃ en : Nat, h0.size ≤ en ∧ ∃ mc', Tmo Z h t (.ref r) 2 mc' ∧ Nd Z h r k1 i1 v1 (.ref en) .null .null 1 ∧ Nd Z h en k i v .null .null (.ref r) 0) := by
  refine Ctr.intro pn_3 #[.val (.ref t), .val (.ref k), .val v, .val (.ref r), .val (.int (1 : Int32)), .unset] (fun m => by rcases ref_cases hv with rfl | ⟨_, rfl⟩ <;> rfl) ?_
  intro p e s m below meth c T hx hby hml hown hnm hret hlk hZ X eT
  have hown : s.vm.findClass "java/util/TreeMap" = some m.cls := hown
  have N := Fr.nil n0
  have lt : t < h0.size := ht.1.lt
  have lk : k < h0.size := hk.1.lt
  have lr : r < h0.size := hr.1.lt
  show Gl p e below s _ _ _ (T.setTop (mkF m 0 #[.val (.ref t), .val (.ref k), .val v, .val (.ref r), .val (.int (1 : Int32)), .unset] []))
  obtain ⟨T, h1, X, eT, E1, A1, D1, -, st⟩ := newO X hx hZ hown (hw _ (List.mem_of_getElem? (i := 92) rfl)) (hw _ (List.mem_of_getElem? (i := 93) rfl)) (hw _ (List.mem_of_getElem? (i := 94) rfl)) eT (g := (mkF m 0 #[.val (.ref t), .val (.ref k), .val v, .val (.ref r), .val (.int (1 : Int32)), .unset] [])) rfl (hb hby d25_0) (by decide) (by decide)
  obtain ⟨en, g1⟩ : ∃ z, z = h0.size := ⟨_, rfl⟩
  rw [← g1] at A1 D1 st
  have sz1 := E1.1
  have lt1 : en < h1.size := A1.lt
  refine Gl.by st ?_
  have F1_key : Fld Z h1 en "java/util/TreeMap$Entry" "key" "Ljava/lang/Object;" .null := D1 (Or.inl (hw _ (List.mem_of_getElem? (i := 103) rfl))) (ty := (.object "java/lang/Object")) (by decide)
  have F1_value : Fld Z h1 en "java/util/TreeMap$Entry" "value" "Ljava/lang/Object;" .null := D1 (Or.inl (hw _ (List.mem_of_getElem? (i := 105) rfl))) (ty := (.object "java/lang/Object")) (by decide)
  have F1_left : Fld Z h1 en "java/util/TreeMap$Entry" "left" "Ljava/util/TreeMap$Entry;" .null := D1 (Or.inl (hw _ (List.mem_of_getElem? (i := 201) rfl))) (ty := (.object "java/util/TreeMap$Entry")) (by decide)
  have F1_right : Fld Z h1 en "java/util/TreeMap$Entry" "right" "Ljava/util/TreeMap$Entry;" .null := D1 (Or.inl (hw _ (List.mem_of_getElem? (i := 176) rfl))) (ty := (.object "java/util/TreeMap$Entry")) (by decide)
  have F1_parent : Fld Z h1 en "java/util/TreeMap$Entry" "parent" "Ljava/util/TreeMap$Entry;" .null := D1 (Or.inl (hw _ (List.mem_of_getElem? (i := 107) rfl))) (ty := (.object "java/util/TreeMap$Entry")) (by decide)
  have F1_color : Fld Z h1 en "java/util/TreeMap$Entry" "color" "Z" (.int (0 : Int32)) := D1 (Or.inl (hw _ (List.mem_of_getElem? (i := 101) rfl))) (ty := .boolean) (by decide)
  show Gl p e below s _ _ _ (T.setTop (mkF m 3 #[.val (.ref t), .val (.ref k), .val v, .val (.ref r), .val (.int (1 : Int32)), .unset] [(.ref en)]))
  refine Gl.by (fun t_ k_ => XS.dup X.here hx rfl (hb hby d25_3) rfl rfl k_) ?_
  show Gl p e below s _ _ _ (T.setTop (mkF m 4 #[.val (.ref t), .val (.ref k), .val v, .val (.ref r), .val (.int (1 : Int32)), .unset] [(.ref en), (.ref en)]))
  refine Gl.by (fun t_ k_ => XS.aloadN X.here hx rfl (hb hby d25_4) rfl rfl k_) ?_
  show Gl p e below s _ _ _ (T.setTop (mkF m 5 #[.val (.ref t), .val (.ref k), .val v, .val (.ref r), .val (.int (1 : Int32)), .unset] [(.ref k), (.ref en), (.ref en)]))
  refine Gl.by (fun t_ k_ => XS.aloadN X.here hx rfl (hb hby d25_5) rfl hv k_) ?_
  show Gl p e below s _ _ _ (T.setTop (mkF m 6 #[.val (.ref t), .val (.ref k), .val v, .val (.ref r), .val (.int (1 : Int32)), .unset] [v, (.ref k), (.ref en), (.ref en)]))
  refine Gl.by (fun t_ k_ => XS.aloadN X.here hx rfl (hb hby d25_6) rfl rfl k_) ?_
  show Gl p e below s _ _ _ (T.setTop (mkF m 7 #[.val (.ref t), .val (.ref k), .val v, .val (.ref r), .val (.int (1 : Int32)), .unset] [(.ref r), v, (.ref k), (.ref en), (.ref en)]))
  refine Gl.spec X hx hZ rfl hown (hw _ (List.mem_of_getElem? (i := 95) rfl)) (hw _ (List.mem_of_getElem? (i := 96) rfl)) (hw _ (List.mem_of_getElem? (i := 98) rfl)) (by decide) (W := 1) (backC (own_eni l Z a0 hw en k v (.ref r) h1 n0 (by omega) hv rfl A1 F1_key F1_value F1_left F1_right F1_parent F1_color) hZ (hw _ (List.mem_of_getElem? (i := 98) rfl)) (hw _ (List.mem_of_getElem? (i := 94) rfl)) (by decide) (by decide)) eT (hb hby d25_7) (by rw [hml]; rfl) en [(.ref k), v, (.ref r)] [(.ref en)] (lenOf pd_6 rfl) rfl rfl (Nat.le_of_eq rfl) (by decide) (by decide) ?_
  intro v T L X hq
  obtain ⟨rfl, NQ, K2, E2, F2_key, F2_value, F2_left, F2_right, F2_parent, F2_color⟩ := hq
  have N := Fr.app N NQ
  obtain ⟨h2, eT⟩ : ∃ z, T.heap = z := ⟨_, rfl⟩
  rw [eT] at K2 E2 F2_key F2_value F2_left F2_right F2_parent F2_color
  have sz2 := K2.1
  show Gl p e below s _ _ _ (T.setTop (mkF m 10 #[.val (.ref t), .val (.ref k), .val v, .val (.ref r), .val (.int (1 : Int32)), .unset] [(.ref en)]))
  refine Gl.by (fun t_ k_ => XS.astore X.here hx rfl (hb hby d25_10) rfl rfl (l' := #[.val (.ref t), .val (.ref k), .val v, .val (.ref r), .val (.int (1 : Int32)), .val (.ref en)]) rfl k_) ?_
  show Gl p e below s _ _ _ (T.setTop (mkF m 12 #[.val (.ref t), .val (.ref k), .val v, .val (.ref r), .val (.int (1 : Int32)), .val (.ref en)] []))
  refine Gl.by (fun t_ k_ => XS.iload X.here hx rfl (hb hby d25_12) rfl k_) ?_
  show Gl p e below s _ _ _ (T.setTop (mkF m 14 #[.val (.ref t), .val (.ref k), .val v, .val (.ref r), .val (.int (1 : Int32)), .val (.ref en)] [(.int (1 : Int32))]))
  refine Gl.by (fun t_ k_ => XS.ifNo X.here hx rfl (hb hby d25_14) rfl ((if0 _ _).trans (feq (by decide : ¬ (1 : Int32) = 0)).1) k_) ?_
  show Gl p e below s _ _ _ (T.setTop (mkF m 17 #[.val (.ref t), .val (.ref k), .val v, .val (.ref r), .val (.int (1 : Int32)), .val (.ref en)] []))
  refine Gl.by (fun t_ k_ => XS.aloadN X.here hx rfl (hb hby d25_17) rfl rfl k_) ?_
  show Gl p e below s _ _ _ (T.setTop (mkF m 18 #[.val (.ref t), .val (.ref k), .val v, .val (.ref r), .val (.int (1 : Int32)), .val (.ref en)] [(.ref r)]))
  refine Gl.by (fun t_ k_ => XS.aload X.here hx rfl (hb hby d25_18) rfl rfl k_) ?_
  show Gl p e below s _ _ _ (T.setTop (mkF m 20 #[.val (.ref t), .val (.ref k), .val v, .val (.ref r), .val (.int (1 : Int32)), .val (.ref en)] [(.ref en), (.ref r)]))
  obtain ⟨T, h3, X, eT, W3, st⟩ := putF X hx hZ hown (host := "") (Or.inl (hw _ (List.mem_of_getElem? (i := 200) rfl))) Via.refl eT ((hr.2.2.2.1.ext E1).keep K2 (ninS (nea (by omega)) nin0)) ((hr.1.ext E1).keep K2) (Or.inl (hw _ (List.mem_of_getElem? (i := 201) rfl))) (hw _ (List.mem_of_getElem? (i := 93) rfl)) (ty := (.object "java/util/TreeMap$Entry")) (by decide) rfl rfl (g := (mkF m 20 #[.val (.ref t), .val (.ref k), .val v, .val (.ref r), .val (.int (1 : Int32)), .val (.ref en)] [(.ref en), (.ref r)])) rfl rfl (hb hby d25_20)
  have F3_left : Fld Z h3 r "java/util/TreeMap$Entry" "left" "Ljava/util/TreeMap$Entry;" (.ref en) := Fld.same W3 ((hr.2.2.2.1.ext E1).keep K2 (ninS (nea (by omega)) nin0))
  have sz3 := (Keep.of_wr W3).1
  have N := Fr.snoc X N (by omega)
  refine Gl.by st ?_
  show Gl p e below s _ _ _ (T.setTop (mkF m 23 #[.val (.ref t), .val (.ref k), .val v, .val (.ref r), .val (.int (1 : Int32)), .val (.ref en)] []))
  refine Gl.by (fun t_ k_ => XS.goto X.here hx rfl (pc0 := 23) (pc' := 32) rfl (hb hby d25_23) (by decide) (by decide) k_) ?_
  show Gl p e below s _ _ _ (T.setTop (mkF m 32 #[.val (.ref t), .val (.ref k), .val v, .val (.ref r), .val (.int (1 : Int32)), .val (.ref en)] []))
  refine Gl.by (fun t_ k_ => XS.aloadN X.here hx rfl (hb hby d25_32) rfl rfl k_) ?_
  show Gl p e below s _ _ _ (T.setTop (mkF m 33 #[.val (.ref t), .val (.ref k), .val v, .val (.ref r), .val (.int (1 : Int32)), .val (.ref en)] [(.ref t)]))
  refine Gl.by (fun t_ k_ => XS.aload X.here hx rfl (hb hby d25_33) rfl rfl k_) ?_
  show Gl p e below s _ _ _ (T.setTop (mkF m 35 #[.val (.ref t), .val (.ref k), .val v, .val (.ref r), .val (.int (1 : Int32)), .val (.ref en)] [(.ref en), (.ref t)]))
  refine Gl.priv X hx hZ hown (hw _ (List.mem_of_getElem? (i := 182) rfl)) (hw _ (List.mem_of_getElem? (i := 183) rfl)) (hw _ (List.mem_of_getElem? (i := 185) rfl)) (hw _ (List.mem_of_getElem? (i := 184) rfl)) (hw _ (List.mem_of_getElem? (i := 186) rfl)) (by decide) (((ht.1.ext E1).keep K2).wr W3) (W := 0) (backC (own_fix l Z a0 hw t en r k k1 v v1 (.ref en) .null 1 mc h3 n0 (by omega) Zr (by omega) ⟨(((ht.1.ext E1).keep K2).wr W3), (((ht.2.1.ext E1).keep K2 (ninS (ne_exa (ht.1.ext E1) A1 (by decide)) nin0)).other W3 (Or.inl (ne_exa ((ht.1.ext E1).keep K2) ((hr.1.ext E1).keep K2) (by decide)))), (((ht.2.2.1.ext E1).keep K2 (ninS (ne_exa (ht.1.ext E1) A1 (by decide)) nin0)).other W3 (Or.inl (ne_exa ((ht.1.ext E1).keep K2) ((hr.1.ext E1).keep K2) (by decide)))), (((ht.2.2.2.1.ext E1).keep K2 (ninS (ne_exa (ht.1.ext E1) A1 (by decide)) nin0)).other W3 (Or.inl (ne_exa ((ht.1.ext E1).keep K2) ((hr.1.ext E1).keep K2) (by decide)))), (((ht.2.2.2.2.ext E1).keep K2 (ninS (ne_exa (ht.1.ext E1) A1 (by decide)) nin0)).other W3 (Or.inl (ne_exa ((ht.1.ext E1).keep K2) ((hr.1.ext E1).keep K2) (by decide))))⟩ ((A1.keep K2).wr W3) (F2_key.other W3 (Or.inl (nea (by omega)))) (F2_value.other W3 (Or.inl (nea (by omega)))) (F2_left.other W3 (Or.inl (nea (by omega)))) (F2_right.other W3 (Or.inl (nea (by omega)))) (F2_parent.other W3 (Or.inl (nea (by omega)))) (F2_color.other W3 (Or.inl (nea (by omega)))) (((hr.1.ext E1).keep K2).wr W3) (((hr.2.1.ext E1).keep K2 (ninS (nea (by omega)) nin0)).other W3 (Or.inr (slot_ne (C := "java/util/TreeMap$Entry") (Or.inl (hw _ (List.mem_of_getElem? (i := 103) rfl))) (Or.inl (hw _ (List.mem_of_getElem? (i := 201) rfl))) (by decide) (t := (.object "java/lang/Object")) (t' := (.object "java/util/TreeMap$Entry")) (by decide) (by decide)))) (((hr.2.2.1.ext E1).keep K2 (ninS (nea (by omega)) nin0)).other W3 (Or.inr (slot_ne (C := "java/util/TreeMap$Entry") (Or.inl (hw _ (List.mem_of_getElem? (i := 105) rfl))) (Or.inl (hw _ (List.mem_of_getElem? (i := 201) rfl))) (by decide) (t := (.object "java/lang/Object")) (t' := (.object "java/util/TreeMap$Entry")) (by decide) (by decide)))) F3_left (((hr.2.2.2.2.1.ext E1).keep K2 (ninS (nea (by omega)) nin0)).other W3 (Or.inr (slot_ne (C := "java/util/TreeMap$Entry") (Or.inl (hw _ (List.mem_of_getElem? (i := 176) rfl))) (Or.inl (hw _ (List.mem_of_getElem? (i := 201) rfl))) (by decide) (t := (.object "java/util/TreeMap$Entry")) (t' := (.object "java/util/TreeMap$Entry")) (by decide) (by decide)))) (((hr.2.2.2.2.2.1.ext E1).keep K2 (ninS (nea (by omega)) nin0)).other W3 (Or.inr (slot_ne (C := "java/util/TreeMap$Entry") (Or.inl (hw _ (List.mem_of_getElem? (i := 107) rfl))) (Or.inl (hw _ (List.mem_of_getElem? (i := 201) rfl))) (by decide) (t := (.object "java/util/TreeMap$Entry")) (t' := (.object "java/util/TreeMap$Entry")) (by decide) (by decide)))) (((hr.2.2.2.2.2.2.1.ext E1).keep K2 (ninS (nea (by omega)) nin0)).other W3 (Or.inr (slot_ne (C := "java/util/TreeMap$Entry") (Or.inl (hw _ (List.mem_of_getElem? (i := 101) rfl))) (Or.inl (hw _ (List.mem_of_getElem? (i := 201) rfl))) (by decide) (t := .boolean) (t' := (.object "java/util/TreeMap$Entry")) (by decide) (by decide))))) hZ (hw _ (List.mem_of_getElem? (i := 186) rfl)) (hw _ (List.mem_of_getElem? (i := 19) rfl)) (by decide) (by decide)) eT (hb hby d25_35) (by rw [hml]; rfl) [(.ref en)] [] (lenOf pd_7 rfl) rfl rfl (Nat.le_of_eq rfl) (by decide) (by decide) ?_
  intro v T L X hq
  obtain ⟨rfl, NQ, K4, En4, G4_key, G4_value, G4_left, G4_right, G4_parent, G4_color, Rn4, H4_key, H4_value, H4_left, H4_right, H4_parent, H4_color⟩ := hq
  have N := Fr.app N NQ
  obtain ⟨h4, eT⟩ : ∃ z, T.heap = z := ⟨_, rfl⟩
  rw [eT] at K4 G4_key G4_value G4_left G4_right G4_parent G4_color H4_key H4_value H4_left H4_right H4_parent H4_color
  have sz4 := K4.1
  show Gl p e below s _ _ _ (T.setTop (mkF m 38 #[.val (.ref t), .val (.ref k), .val v, .val (.ref r), .val (.int (1 : Int32)), .val (.ref en)] []))
  refine Gl.by (fun t_ k_ => XS.aloadN X.here hx rfl (hb hby d25_38) rfl rfl k_) ?_
  show Gl p e below s _ _ _ (T.setTop (mkF m 39 #[.val (.ref t), .val (.ref k), .val v, .val (.ref r), .val (.int (1 : Int32)), .val (.ref en)] [(.ref t)]))
  refine Gl.by (fun t_ k_ => XS.dup X.here hx rfl (hb hby d25_39) rfl rfl k_) ?_
  show Gl p e below s _ _ _ (T.setTop (mkF m 40 #[.val (.ref t), .val (.ref k), .val v, .val (.ref r), .val (.int (1 : Int32)), .val (.ref en)] [(.ref t), (.ref t)]))
  obtain ⟨T, X, eT, st⟩ := getF X hx hZ hown (host := "") (Or.inl (hw _ (List.mem_of_getElem? (i := 30) rfl))) Via.refl eT ((((ht.2.2.2.1.ext E1).keep K2 (ninS (ne_exa (ht.1.ext E1) A1 (by decide)) nin0)).other W3 (Or.inl (ne_exa ((ht.1.ext E1).keep K2) ((hr.1.ext E1).keep K2) (by decide)))).keep K4 (ninS (ne_exa (((ht.1.ext E1).keep K2).wr W3) ((A1.keep K2).wr W3) (by decide)) (ninS (ne_exa (((ht.1.ext E1).keep K2).wr W3) (((hr.1.ext E1).keep K2).wr W3) (by decide)) nin0))) (g := (mkF m 40 #[.val (.ref t), .val (.ref k), .val v, .val (.ref r), .val (.int (1 : Int32)), .val (.ref en)] [(.ref t), (.ref t)])) rfl rfl (hb hby d25_40)
  refine Gl.by st ?_
  show Gl p e below s _ _ _ (T.setTop (mkF m 43 #[.val (.ref t), .val (.ref k), .val v, .val (.ref r), .val (.int (1 : Int32)), .val (.ref en)] [(.int 1), (.ref t)]))
  refine Gl.by (fun t_ k_ => XS.iconst X.here hx rfl (hb hby d25_43) k_) ?_
  show Gl p e below s _ _ _ (T.setTop (mkF m 44 #[.val (.ref t), .val (.ref k), .val v, .val (.ref r), .val (.int (1 : Int32)), .val (.ref en)] [(.int (1 : Int32)), (.int 1), (.ref t)]))
  refine Gl.by (fun t_ k_ => XS.iadd X.here hx rfl (hb hby d25_44) rfl k_) ?_
  show Gl p e below s _ _ _ (T.setTop (mkF m 45 #[.val (.ref t), .val (.ref k), .val v, .val (.ref r), .val (.int (1 : Int32)), .val (.ref en)] [(.int (1 + (1 : Int32))), (.ref t)]))
  obtain ⟨T, h5, X, eT, W5, st⟩ := putF X hx hZ hown (host := "") (Or.inl (hw _ (List.mem_of_getElem? (i := 30) rfl))) Via.refl eT ((((ht.2.2.2.1.ext E1).keep K2 (ninS (ne_exa (ht.1.ext E1) A1 (by decide)) nin0)).other W3 (Or.inl (ne_exa ((ht.1.ext E1).keep K2) ((hr.1.ext E1).keep K2) (by decide)))).keep K4 (ninS (ne_exa (((ht.1.ext E1).keep K2).wr W3) ((A1.keep K2).wr W3) (by decide)) (ninS (ne_exa (((ht.1.ext E1).keep K2).wr W3) (((hr.1.ext E1).keep K2).wr W3) (by decide)) nin0))) ((((ht.1.ext E1).keep K2).wr W3).keep K4) (Or.inl (hw _ (List.mem_of_getElem? (i := 31) rfl))) (hw _ (List.mem_of_getElem? (i := 18) rfl)) (ty := .int) (by decide) rfl rfl (g := (mkF m 45 #[.val (.ref t), .val (.ref k), .val v, .val (.ref r), .val (.int (1 : Int32)), .val (.ref en)] [(.int (1 + (1 : Int32))), (.ref t)])) rfl rfl (hb hby d25_45)
  have F5_size : Fld Z h5 t "java/util/TreeMap" "size" "I" (.int (1 + (1 : Int32))) := Fld.same W5 ((((ht.2.2.2.1.ext E1).keep K2 (ninS (ne_exa (ht.1.ext E1) A1 (by decide)) nin0)).other W3 (Or.inl (ne_exa ((ht.1.ext E1).keep K2) ((hr.1.ext E1).keep K2) (by decide)))).keep K4 (ninS (ne_exa (((ht.1.ext E1).keep K2).wr W3) ((A1.keep K2).wr W3) (by decide)) (ninS (ne_exa (((ht.1.ext E1).keep K2).wr W3) (((hr.1.ext E1).keep K2).wr W3) (by decide)) nin0)))
  have sz5 := (Keep.of_wr W5).1
  have N := Fr.snoc X N (by omega)
  refine Gl.by st ?_
  show Gl p e below s _ _ _ (T.setTop (mkF m 48 #[.val (.ref t), .val (.ref k), .val v, .val (.ref r), .val (.int (1 : Int32)), .val (.ref en)] []))
  refine Gl.by (fun t_ k_ => XS.aloadN X.here hx rfl (hb hby d25_48) rfl rfl k_) ?_
  show Gl p e below s _ _ _ (T.setTop (mkF m 49 #[.val (.ref t), .val (.ref k), .val v, .val (.ref r), .val (.int (1 : Int32)), .val (.ref en)] [(.ref t)]))
  refine Gl.by (fun t_ k_ => XS.dup X.here hx rfl (hb hby d25_49) rfl rfl k_) ?_
  show Gl p e below s _ _ _ (T.setTop (mkF m 50 #[.val (.ref t), .val (.ref k), .val v, .val (.ref r), .val (.int (1 : Int32)), .val (.ref en)] [(.ref t), (.ref t)]))
  obtain ⟨T, X, eT, st⟩ := getF X hx hZ hown (host := "") (Or.inl (hw _ (List.mem_of_getElem? (i := 32) rfl))) Via.refl eT (((((ht.2.2.2.2.ext E1).keep K2 (ninS (ne_exa (ht.1.ext E1) A1 (by decide)) nin0)).other W3 (Or.inl (ne_exa ((ht.1.ext E1).keep K2) ((hr.1.ext E1).keep K2) (by decide)))).keep K4 (ninS (ne_exa (((ht.1.ext E1).keep K2).wr W3) ((A1.keep K2).wr W3) (by decide)) (ninS (ne_exa (((ht.1.ext E1).keep K2).wr W3) (((hr.1.ext E1).keep K2).wr W3) (by decide)) nin0))).other W5 (Or.inr (slot_ne (C := "java/util/TreeMap") (Or.inl (hw _ (List.mem_of_getElem? (i := 33) rfl))) (Or.inl (hw _ (List.mem_of_getElem? (i := 31) rfl))) (by decide) (t := .int) (t' := .int) (by decide) (by decide)))) (g := (mkF m 50 #[.val (.ref t), .val (.ref k), .val v, .val (.ref r), .val (.int (1 : Int32)), .val (.ref en)] [(.ref t), (.ref t)])) rfl rfl (hb hby d25_50)
  refine Gl.by st ?_
  show Gl p e below s _ _ _ (T.setTop (mkF m 53 #[.val (.ref t), .val (.ref k), .val v, .val (.ref r), .val (.int (1 : Int32)), .val (.ref en)] [(.int mc), (.ref t)]))
  refine Gl.by (fun t_ k_ => XS.iconst X.here hx rfl (hb hby d25_53) k_) ?_
  show Gl p e below s _ _ _ (T.setTop (mkF m 54 #[.val (.ref t), .val (.ref k), .val v, .val (.ref r), .val (.int (1 : Int32)), .val (.ref en)] [(.int (1 : Int32)), (.int mc), (.ref t)]))
  refine Gl.by (fun t_ k_ => XS.iadd X.here hx rfl (hb hby d25_54) rfl k_) ?_
  show Gl p e below s _ _ _ (T.setTop (mkF m 55 #[.val (.ref t), .val (.ref k), .val v, .val (.ref r), .val (.int (1 : Int32)), .val (.ref en)] [(.int (mc + (1 : Int32))), (.ref t)]))
  obtain ⟨T, h6, X, eT, W6, st⟩ := putF X hx hZ hown (host := "") (Or.inl (hw _ (List.mem_of_getElem? (i := 32) rfl))) Via.refl eT (((((ht.2.2.2.2.ext E1).keep K2 (ninS (ne_exa (ht.1.ext E1) A1 (by decide)) nin0)).other W3 (Or.inl (ne_exa ((ht.1.ext E1).keep K2) ((hr.1.ext E1).keep K2) (by decide)))).keep K4 (ninS (ne_exa (((ht.1.ext E1).keep K2).wr W3) ((A1.keep K2).wr W3) (by decide)) (ninS (ne_exa (((ht.1.ext E1).keep K2).wr W3) (((hr.1.ext E1).keep K2).wr W3) (by decide)) nin0))).other W5 (Or.inr (slot_ne (C := "java/util/TreeMap") (Or.inl (hw _ (List.mem_of_getElem? (i := 33) rfl))) (Or.inl (hw _ (List.mem_of_getElem? (i := 31) rfl))) (by decide) (t := .int) (t' := .int) (by decide) (by decide)))) (((((ht.1.ext E1).keep K2).wr W3).keep K4).wr W5) (Or.inl (hw _ (List.mem_of_getElem? (i := 33) rfl))) (hw _ (List.mem_of_getElem? (i := 18) rfl)) (ty := .int) (by decide) rfl rfl (g := (mkF m 55 #[.val (.ref t), .val (.ref k), .val v, .val (.ref r), .val (.int (1 : Int32)), .val (.ref en)] [(.int (mc + (1 : Int32))), (.ref t)])) rfl rfl (hb hby d25_55)
  have F6_modCount : Fld Z h6 t "java/util/TreeMap" "modCount" "I" (.int (mc + (1 : Int32))) := Fld.same W6 (((((ht.2.2.2.2.ext E1).keep K2 (ninS (ne_exa (ht.1.ext E1) A1 (by decide)) nin0)).other W3 (Or.inl (ne_exa ((ht.1.ext E1).keep K2) ((hr.1.ext E1).keep K2) (by decide)))).keep K4 (ninS (ne_exa (((ht.1.ext E1).keep K2).wr W3) ((A1.keep K2).wr W3) (by decide)) (ninS (ne_exa (((ht.1.ext E1).keep K2).wr W3) (((hr.1.ext E1).keep K2).wr W3) (by decide)) nin0))).other W5 (Or.inr (slot_ne (C := "java/util/TreeMap") (Or.inl (hw _ (List.mem_of_getElem? (i := 33) rfl))) (Or.inl (hw _ (List.mem_of_getElem? (i := 31) rfl))) (by decide) (t := .int) (t' := .int) (by decide) (by decide))))
  have sz6 := (Keep.of_wr W6).1
  have N := Fr.snoc X N (by omega)
  refine Gl.by st ?_
  show Gl p e below s _ _ _ (T.setTop (mkF m 58 #[.val (.ref t), .val (.ref k), .val v, .val (.ref r), .val (.int (1 : Int32)), .val (.ref en)] []))
  refine Gl.retV X hx hlk hret (hb hby d25_58) (by decide) (by decide) ?_
  rw [eT]
  exact ⟨rfl, N, (((((((Keep.refl h0 [t, r]).ext E1).trans K2 (allS (Or.inr (by omega)) all0)).wr W3 (Or.inl (by simp))).trans K4 (allS (Or.inr (by omega)) (allS (Or.inl (by simp)) all0))).wr W5 (Or.inl (by simp))).wr W6 (Or.inl (by simp))), en, by omega, _, ⟨((((((ht.1.ext E1).keep K2).wr W3).keep K4).wr W5).wr W6), ((((((ht.2.1.ext E1).keep K2 (ninS (ne_exa (ht.1.ext E1) A1 (by decide)) nin0)).other W3 (Or.inl (ne_exa ((ht.1.ext E1).keep K2) ((hr.1.ext E1).keep K2) (by decide)))).keep K4 (ninS (ne_exa (((ht.1.ext E1).keep K2).wr W3) ((A1.keep K2).wr W3) (by decide)) (ninS (ne_exa (((ht.1.ext E1).keep K2).wr W3) (((hr.1.ext E1).keep K2).wr W3) (by decide)) nin0))).other W5 (Or.inr (slot_ne (C := "java/util/TreeMap") (Or.inr (hw _ (List.mem_of_getElem? (i := 35) rfl))) (Or.inl (hw _ (List.mem_of_getElem? (i := 31) rfl))) (by decide) (t := (.object "java/util/Comparator")) (t' := .int) (by decide) (by decide)))).other W6 (Or.inr (slot_ne (C := "java/util/TreeMap") (Or.inr (hw _ (List.mem_of_getElem? (i := 35) rfl))) (Or.inl (hw _ (List.mem_of_getElem? (i := 33) rfl))) (by decide) (t := (.object "java/util/Comparator")) (t' := .int) (by decide) (by decide)))), ((((((ht.2.2.1.ext E1).keep K2 (ninS (ne_exa (ht.1.ext E1) A1 (by decide)) nin0)).other W3 (Or.inl (ne_exa ((ht.1.ext E1).keep K2) ((hr.1.ext E1).keep K2) (by decide)))).keep K4 (ninS (ne_exa (((ht.1.ext E1).keep K2).wr W3) ((A1.keep K2).wr W3) (by decide)) (ninS (ne_exa (((ht.1.ext E1).keep K2).wr W3) (((hr.1.ext E1).keep K2).wr W3) (by decide)) nin0))).other W5 (Or.inr (slot_ne (C := "java/util/TreeMap") (Or.inl (hw _ (List.mem_of_getElem? (i := 59) rfl))) (Or.inl (hw _ (List.mem_of_getElem? (i := 31) rfl))) (by decide) (t := (.object "java/util/TreeMap$Entry")) (t' := .int) (by decide) (by decide)))).other W6 (Or.inr (slot_ne (C := "java/util/TreeMap") (Or.inl (hw _ (List.mem_of_getElem? (i := 59) rfl))) (Or.inl (hw _ (List.mem_of_getElem? (i := 33) rfl))) (by decide) (t := (.object "java/util/TreeMap$Entry")) (t' := .int) (by decide) (by decide)))), (F5_size.other W6 (Or.inr (slot_ne (C := "java/util/TreeMap") (Or.inl (hw _ (List.mem_of_getElem? (i := 31) rfl))) (Or.inl (hw _ (List.mem_of_getElem? (i := 33) rfl))) (by decide) (t := .int) (t' := .int) (by decide) (by decide)))), F6_modCount⟩, ⟨((((((hr.1.ext E1).keep K2).wr W3).keep K4).wr W5).wr W6), ((H4_key.other W5 (Or.inl (ne_exa ((((hr.1.ext E1).keep K2).wr W3).keep K4) ((((ht.1.ext E1).keep K2).wr W3).keep K4) (by decide)))).other W6 (Or.inl (ne_exa (((((hr.1.ext E1).keep K2).wr W3).keep K4).wr W5) (((((ht.1.ext E1).keep K2).wr W3).keep K4).wr W5) (by decide)))), ((H4_value.other W5 (Or.inl (ne_exa ((((hr.1.ext E1).keep K2).wr W3).keep K4) ((((ht.1.ext E1).keep K2).wr W3).keep K4) (by decide)))).other W6 (Or.inl (ne_exa (((((hr.1.ext E1).keep K2).wr W3).keep K4).wr W5) (((((ht.1.ext E1).keep K2).wr W3).keep K4).wr W5) (by decide)))), ((H4_left.other W5 (Or.inl (ne_exa ((((hr.1.ext E1).keep K2).wr W3).keep K4) ((((ht.1.ext E1).keep K2).wr W3).keep K4) (by decide)))).other W6 (Or.inl (ne_exa (((((hr.1.ext E1).keep K2).wr W3).keep K4).wr W5) (((((ht.1.ext E1).keep K2).wr W3).keep K4).wr W5) (by decide)))), ((H4_right.other W5 (Or.inl (ne_exa ((((hr.1.ext E1).keep K2).wr W3).keep K4) ((((ht.1.ext E1).keep K2).wr W3).keep K4) (by decide)))).other W6 (Or.inl (ne_exa (((((hr.1.ext E1).keep K2).wr W3).keep K4).wr W5) (((((ht.1.ext E1).keep K2).wr W3).keep K4).wr W5) (by decide)))), ((H4_parent.other W5 (Or.inl (ne_exa ((((hr.1.ext E1).keep K2).wr W3).keep K4) ((((ht.1.ext E1).keep K2).wr W3).keep K4) (by decide)))).other W6 (Or.inl (ne_exa (((((hr.1.ext E1).keep K2).wr W3).keep K4).wr W5) (((((ht.1.ext E1).keep K2).wr W3).keep K4).wr W5) (by decide)))), ((H4_color.other W5 (Or.inl (ne_exa ((((hr.1.ext E1).keep K2).wr W3).keep K4) ((((ht.1.ext E1).keep K2).wr W3).keep K4) (by decide)))).other W6 (Or.inl (ne_exa (((((hr.1.ext E1).keep K2).wr W3).keep K4).wr W5) (((((ht.1.ext E1).keep K2).wr W3).keep K4).wr W5) (by decide)))), ⟨((((((hr.2.2.2.2.2.2.2.1.1.ext E1).keep K2).wr W3).keep K4).wr W5).wr W6), ((((((hr.2.2.2.2.2.2.2.1.2.ext E1).keep K2 (ninS (ne_exa (hr.2.2.2.2.2.2.2.1.1.ext E1) A1 (by decide)) nin0)).other W3 (Or.inl (ne_exa ((hr.2.2.2.2.2.2.2.1.1.ext E1).keep K2) ((hr.1.ext E1).keep K2) (by decide)))).keep K4 (ninS (ne_exa (((hr.2.2.2.2.2.2.2.1.1.ext E1).keep K2).wr W3) ((A1.keep K2).wr W3) (by decide)) (ninS (ne_exa (((hr.2.2.2.2.2.2.2.1.1.ext E1).keep K2).wr W3) (((hr.1.ext E1).keep K2).wr W3) (by decide)) nin0))).other W5 (Or.inl (ne_exa ((((hr.2.2.2.2.2.2.2.1.1.ext E1).keep K2).wr W3).keep K4) ((((ht.1.ext E1).keep K2).wr W3).keep K4) (by decide)))).other W6 (Or.inl (ne_exa (((((hr.2.2.2.2.2.2.2.1.1.ext E1).keep K2).wr W3).keep K4).wr W5) (((((ht.1.ext E1).keep K2).wr W3).keep K4).wr W5) (by decide))))⟩, hr.2.2.2.2.2.2.2.2⟩, ⟨(((((A1.keep K2).wr W3).keep K4).wr W5).wr W6), ((G4_key.other W5 (Or.inl (ne_exa (((A1.keep K2).wr W3).keep K4) ((((ht.1.ext E1).keep K2).wr W3).keep K4) (by decide)))).other W6 (Or.inl (ne_exa ((((A1.keep K2).wr W3).keep K4).wr W5) (((((ht.1.ext E1).keep K2).wr W3).keep K4).wr W5) (by decide)))), ((G4_value.other W5 (Or.inl (ne_exa (((A1.keep K2).wr W3).keep K4) ((((ht.1.ext E1).keep K2).wr W3).keep K4) (by decide)))).other W6 (Or.inl (ne_exa ((((A1.keep K2).wr W3).keep K4).wr W5) (((((ht.1.ext E1).keep K2).wr W3).keep K4).wr W5) (by decide)))), ((G4_left.other W5 (Or.inl (ne_exa (((A1.keep K2).wr W3).keep K4) ((((ht.1.ext E1).keep K2).wr W3).keep K4) (by decide)))).other W6 (Or.inl (ne_exa ((((A1.keep K2).wr W3).keep K4).wr W5) (((((ht.1.ext E1).keep K2).wr W3).keep K4).wr W5) (by decide)))), ((G4_right.other W5 (Or.inl (ne_exa (((A1.keep K2).wr W3).keep K4) ((((ht.1.ext E1).keep K2).wr W3).keep K4) (by decide)))).other W6 (Or.inl (ne_exa ((((A1.keep K2).wr W3).keep K4).wr W5) (((((ht.1.ext E1).keep K2).wr W3).keep K4).wr W5) (by decide)))), ((G4_parent.other W5 (Or.inl (ne_exa (((A1.keep K2).wr W3).keep K4) ((((ht.1.ext E1).keep K2).wr W3).keep K4) (by decide)))).other W6 (Or.inl (ne_exa ((((A1.keep K2).wr W3).keep K4).wr W5) (((((ht.1.ext E1).keep K2).wr W3).keep K4).wr W5) (by decide)))), ((G4_color.other W5 (Or.inl (ne_exa (((A1.keep K2).wr W3).keep K4) ((((ht.1.ext E1).keep K2).wr W3).keep K4) (by decide)))).other W6 (Or.inl (ne_exa ((((A1.keep K2).wr W3).keep K4).wr W5) (((((ht.1.ext E1).keep K2).wr W3).keep K4).wr W5) (by decide)))), ⟨((((((hk.1.ext E1).keep K2).wr W3).keep K4).wr W5).wr W6), ((((((hk.2.ext E1).keep K2 (ninS (ne_exa (hk.1.ext E1) A1 (by decide)) nin0)).other W3 (Or.inl (ne_exa ((hk.1.ext E1).keep K2) ((hr.1.ext E1).keep K2) (by decide)))).keep K4 (ninS (ne_exa (((hk.1.ext E1).keep K2).wr W3) ((A1.keep K2).wr W3) (by decide)) (ninS (ne_exa (((hk.1.ext E1).keep K2).wr W3) (((hr.1.ext E1).keep K2).wr W3) (by decide)) nin0))).other W5 (Or.inl (ne_exa ((((hk.1.ext E1).keep K2).wr W3).keep K4) ((((ht.1.ext E1).keep K2).wr W3).keep K4) (by decide)))).other W6 (Or.inl (ne_exa (((((hk.1.ext E1).keep K2).wr W3).keep K4).wr W5) (((((ht.1.ext E1).keep K2).wr W3).keep K4).wr W5) (by decide))))⟩, hv⟩⟩
set_option maxRecDepth 65536 in
set_option maxHeartbeats 40000000 in
theorem own_addR (l : Launch) (Z : State) (a0 : Array Value) (hw : ∀ d ∈ tables_1, d.before a0 Z = true) (t k r k1 : Nat) (i i1 mc : Int32) (v v1 : Value) (h0 : Heap) (n0 : Nat) (Z0 : n0 ≤ h0.size) (Zt : n0 ≤ t) (Zr : n0 ≤ r) (ht : Tmo Z h0 t (.ref r) 1 mc) (hr : Nd Z h0 r k1 i1 v1 .null .null .null 1) (hk : IntO Z h0 k i) (hv : v.isRef = true) :
    Ctr l Z (⟨"java/util/TreeMap", "addEntry", "(Ljava/lang/Object;Ljava/lang/Object;Ljava/util/TreeMap$Entry;Z)V"⟩ : MethodName) jdk_2729_method_29_code 6 none [] own_rAD #[(.ref t), (.ref k), v, (.ref r), (.int (0 : Int32))] h0 (fun w h L => w = none ∧ Fr n0 L ∧ Keep h0 h [t, r] ∧ ∃ en : Nat, h0.size ≤ en ∧ ∃ mc', Tmo Z h t (.ref r) 2 mc' ∧ Nd Z h r k1 i1 v1 .null (.ref en) .null 1 ∧ Nd Z h en k i v .null .null (.ref r) 0) := by
  refine Ctr.intro pn_3 #[.val (.ref t), .val (.ref k), .val v, .val (.ref r), .val (.int (0 : Int32)), .unset] (fun m => by rcases ref_cases hv with rfl | ⟨_, rfl⟩ <;> rfl) ?_
  intro p e s m below meth c T hx hby hml hown hnm hret hlk hZ X eT
  have hown : s.vm.findClass "java/util/TreeMap" = some m.cls := hown
  have N := Fr.nil n0
  have lt : t < h0.size := ht.1.lt
  have lk : k < h0.size := hk.1.lt
  have lr : r < h0.size := hr.1.lt
  show Gl p e below s _ _ _ (T.setTop (mkF m 0 #[.val (.ref t), .val (.ref k), .val v, .val (.ref r), .val (.int (0 : Int32)), .unset] []))
  obtain ⟨T, h1, X, eT, E1, A1, D1, -, st⟩ := newO X hx hZ hown (hw _ (List.mem_of_getElem? (i := 92) rfl)) (hw _ (List.mem_of_getElem? (i := 93) rfl)) (hw _ (List.mem_of_getElem? (i := 94) rfl)) eT (g := (mkF m 0 #[.val (.ref t), .val (.ref k), .val v, .val (.ref r), .val (.int (0 : Int32)), .unset] [])) rfl (hb hby d25_0) (by decide) (by decide)
  obtain ⟨en, g1⟩ : ∃ z, z = h0.size := ⟨_, rfl⟩
  rw [← g1] at A1 D1 st
  have sz1 := E1.1
  have lt1 : en < h1.size := A1.lt
  refine Gl.by st ?_
  have F1_key : Fld Z h1 en "java/util/TreeMap$Entry" "key" "Ljava/lang/Object;" .null := D1 (Or.inl (hw _ (List.mem_of_getElem? (i := 103) rfl))) (ty := (.object "java/lang/Object")) (by decide)
  have F1_value : Fld Z h1 en "java/util/TreeMap$Entry" "value" "Ljava/lang/Object;" .null := D1 (Or.inl (hw _ (List.mem_of_getElem? (i := 105) rfl))) (ty := (.object "java/lang/Object")) (by decide)
  have F1_left : Fld Z h1 en "java/util/TreeMap$Entry" "left" "Ljava/util/TreeMap$Entry;" .null := D1 (Or.inl (hw _ (List.mem_of_getElem? (i := 201) rfl))) (ty := (.object "java/util/TreeMap$Entry")) (by decide)
  have F1_right : Fld Z h1 en "java/util/TreeMap$Entry" "right" "Ljava/util/TreeMap$Entry;" .null := D1 (Or.inl (hw _ (List.mem_of_getElem? (i := 176) rfl))) (ty := (.object "java/util/TreeMap$Entry")) (by decide)
  have F1_parent : Fld Z h1 en "java/util/TreeMap$Entry" "parent" "Ljava/util/TreeMap$Entry;" .null := D1 (Or.inl (hw _ (List.mem_of_getElem? (i := 107) rfl))) (ty := (.object "java/util/TreeMap$Entry")) (by decide)
  have F1_color : Fld Z h1 en "java/util/TreeMap$Entry" "color" "Z" (.int (0 : Int32)) := D1 (Or.inl (hw _ (List.mem_of_getElem? (i := 101) rfl))) (ty := .boolean) (by decide)
  show Gl p e below s _ _ _ (T.setTop (mkF m 3 #[.val (.ref t), .val (.ref k), .val v, .val (.ref r), .val (.int (0 : Int32)), .unset] [(.ref en)]))
  refine Gl.by (fun t_ k_ => XS.dup X.here hx rfl (hb hby d25_3) rfl rfl k_) ?_
  show Gl p e below s _ _ _ (T.setTop (mkF m 4 #[.val (.ref t), .val (.ref k), .val v, .val (.ref r), .val (.int (0 : Int32)), .unset] [(.ref en), (.ref en)]))
  refine Gl.by (fun t_ k_ => XS.aloadN X.here hx rfl (hb hby d25_4) rfl rfl k_) ?_
  show Gl p e below s _ _ _ (T.setTop (mkF m 5 #[.val (.ref t), .val (.ref k), .val v, .val (.ref r), .val (.int (0 : Int32)), .unset] [(.ref k), (.ref en), (.ref en)]))
  refine Gl.by (fun t_ k_ => XS.aloadN X.here hx rfl (hb hby d25_5) rfl hv k_) ?_
  show Gl p e below s _ _ _ (T.setTop (mkF m 6 #[.val (.ref t), .val (.ref k), .val v, .val (.ref r), .val (.int (0 : Int32)), .unset] [v, (.ref k), (.ref en), (.ref en)]))
  refine Gl.by (fun t_ k_ => XS.aloadN X.here hx rfl (hb hby d25_6) rfl rfl k_) ?_
  show Gl p e below s _ _ _ (T.setTop (mkF m 7 #[.val (.ref t), .val (.ref k), .val v, .val (.ref r), .val (.int (0 : Int32)), .unset] [(.ref r), v, (.ref k), (.ref en), (.ref en)]))
  refine Gl.spec X hx hZ rfl hown (hw _ (List.mem_of_getElem? (i := 95) rfl)) (hw _ (List.mem_of_getElem? (i := 96) rfl)) (hw _ (List.mem_of_getElem? (i := 98) rfl)) (by decide) (W := 1) (backC (own_eni l Z a0 hw en k v (.ref r) h1 n0 (by omega) hv rfl A1 F1_key F1_value F1_left F1_right F1_parent F1_color) hZ (hw _ (List.mem_of_getElem? (i := 98) rfl)) (hw _ (List.mem_of_getElem? (i := 94) rfl)) (by decide) (by decide)) eT (hb hby d25_7) (by rw [hml]; rfl) en [(.ref k), v, (.ref r)] [(.ref en)] (lenOf pd_6 rfl) rfl rfl (Nat.le_of_eq rfl) (by decide) (by decide) ?_
  intro v T L X hq
  obtain ⟨rfl, NQ, K2, E2, F2_key, F2_value, F2_left, F2_right, F2_parent, F2_color⟩ := hq
  have N := Fr.app N NQ
  obtain ⟨h2, eT⟩ : ∃ z, T.heap = z := ⟨_, rfl⟩
  rw [eT] at K2 E2 F2_key F2_value F2_left F2_right F2_parent F2_color
  have sz2 := K2.1
  show Gl p e below s _ _ _ (T.setTop (mkF m 10 #[.val (.ref t), .val (.ref k), .val v, .val (.ref r), .val (.int (0 : Int32)), .unset] [(.ref en)]))
  refine Gl.by (fun t_ k_ => XS.astore X.here hx rfl (hb hby d25_10) rfl rfl (l' := #[.val (.ref t), .val (.ref k), .val v, .val (.ref r), .val (.int (0 : Int32)), .val (.ref en)]) rfl k_) ?_
  show Gl p e below s _ _ _ (T.setTop (mkF m 12 #[.val (.ref t), .val (.ref k), .val v, .val (.ref r), .val (.int (0 : Int32)), .val (.ref en)] []))
  refine Gl.by (fun t_ k_ => XS.iload X.here hx rfl (hb hby d25_12) rfl k_) ?_
  show Gl p e below s _ _ _ (T.setTop (mkF m 14 #[.val (.ref t), .val (.ref k), .val v, .val (.ref r), .val (.int (0 : Int32)), .val (.ref en)] [(.int (0 : Int32))]))
  refine Gl.by (fun t_ k_ => XS.ifYes X.here hx rfl (pc0 := 14) (pc' := 26) rfl (hb hby d25_14) rfl ((if0 _ _).trans (teq (rfl : (0 : Int32) = 0)).1) (by decide) (by decide) k_) ?_
  show Gl p e below s _ _ _ (T.setTop (mkF m 26 #[.val (.ref t), .val (.ref k), .val v, .val (.ref r), .val (.int (0 : Int32)), .val (.ref en)] []))
  refine Gl.by (fun t_ k_ => XS.aloadN X.here hx rfl (hb hby d25_26) rfl rfl k_) ?_
  show Gl p e below s _ _ _ (T.setTop (mkF m 27 #[.val (.ref t), .val (.ref k), .val v, .val (.ref r), .val (.int (0 : Int32)), .val (.ref en)] [(.ref r)]))
  refine Gl.by (fun t_ k_ => XS.aload X.here hx rfl (hb hby d25_27) rfl rfl k_) ?_
  show Gl p e below s _ _ _ (T.setTop (mkF m 29 #[.val (.ref t), .val (.ref k), .val v, .val (.ref r), .val (.int (0 : Int32)), .val (.ref en)] [(.ref en), (.ref r)]))
  obtain ⟨T, h3, X, eT, W3, st⟩ := putF X hx hZ hown (host := "") (Or.inl (hw _ (List.mem_of_getElem? (i := 175) rfl))) Via.refl eT ((hr.2.2.2.2.1.ext E1).keep K2 (ninS (nea (by omega)) nin0)) ((hr.1.ext E1).keep K2) (Or.inl (hw _ (List.mem_of_getElem? (i := 176) rfl))) (hw _ (List.mem_of_getElem? (i := 93) rfl)) (ty := (.object "java/util/TreeMap$Entry")) (by decide) rfl rfl (g := (mkF m 29 #[.val (.ref t), .val (.ref k), .val v, .val (.ref r), .val (.int (0 : Int32)), .val (.ref en)] [(.ref en), (.ref r)])) rfl rfl (hb hby d25_29)
  have F3_right : Fld Z h3 r "java/util/TreeMap$Entry" "right" "Ljava/util/TreeMap$Entry;" (.ref en) := Fld.same W3 ((hr.2.2.2.2.1.ext E1).keep K2 (ninS (nea (by omega)) nin0))
  have sz3 := (Keep.of_wr W3).1
  have N := Fr.snoc X N (by omega)
  refine Gl.by st ?_
  show Gl p e below s _ _ _ (T.setTop (mkF m 32 #[.val (.ref t), .val (.ref k), .val v, .val (.ref r), .val (.int (0 : Int32)), .val (.ref en)] []))
  refine Gl.by (fun t_ k_ => XS.aloadN X.here hx rfl (hb hby d25_32) rfl rfl k_) ?_
  show Gl p e below s _ _ _ (T.setTop (mkF m 33 #[.val (.ref t), .val (.ref k), .val v, .val (.ref r), .val (.int (0 : Int32)), .val (.ref en)] [(.ref t)]))
  refine Gl.by (fun t_ k_ => XS.aload X.here hx rfl (hb hby d25_33) rfl rfl k_) ?_
  show Gl p e below s _ _ _ (T.setTop (mkF m 35 #[.val (.ref t), .val (.ref k), .val v, .val (.ref r), .val (.int (0 : Int32)), .val (.ref en)] [(.ref en), (.ref t)]))
  refine Gl.priv X hx hZ hown (hw _ (List.mem_of_getElem? (i := 182) rfl)) (hw _ (List.mem_of_getElem? (i := 183) rfl)) (hw _ (List.mem_of_getElem? (i := 185) rfl)) (hw _ (List.mem_of_getElem? (i := 184) rfl)) (hw _ (List.mem_of_getElem? (i := 186) rfl)) (by decide) (((ht.1.ext E1).keep K2).wr W3) (W := 0) (backC (own_fix l Z a0 hw t en r k k1 v v1 .null (.ref en) 1 mc h3 n0 (by omega) Zr (by omega) ⟨(((ht.1.ext E1).keep K2).wr W3), (((ht.2.1.ext E1).keep K2 (ninS (ne_exa (ht.1.ext E1) A1 (by decide)) nin0)).other W3 (Or.inl (ne_exa ((ht.1.ext E1).keep K2) ((hr.1.ext E1).keep K2) (by decide)))), (((ht.2.2.1.ext E1).keep K2 (ninS (ne_exa (ht.1.ext E1) A1 (by decide)) nin0)).other W3 (Or.inl (ne_exa ((ht.1.ext E1).keep K2) ((hr.1.ext E1).keep K2) (by decide)))), (((ht.2.2.2.1.ext E1).keep K2 (ninS (ne_exa (ht.1.ext E1) A1 (by decide)) nin0)).other W3 (Or.inl (ne_exa ((ht.1.ext E1).keep K2) ((hr.1.ext E1).keep K2) (by decide)))), (((ht.2.2.2.2.ext E1).keep K2 (ninS (ne_exa (ht.1.ext E1) A1 (by decide)) nin0)).other W3 (Or.inl (ne_exa ((ht.1.ext E1).keep K2) ((hr.1.ext E1).keep K2) (by decide))))⟩ ((A1.keep K2).wr W3) (F2_key.other W3 (Or.inl (nea (by omega)))) (F2_value.other W3 (Or.inl (nea (by omega)))) (F2_left.other W3 (Or.inl (nea (by omega)))) (F2_right.other W3 (Or.inl (nea (by omega)))) (F2_parent.other W3 (Or.inl (nea (by omega)))) (F2_color.other W3 (Or.inl (nea (by omega)))) (((hr.1.ext E1).keep K2).wr W3) (((hr.2.1.ext E1).keep K2 (ninS (nea (by omega)) nin0)).other W3 (Or.inr (slot_ne (C := "java/util/TreeMap$Entry") (Or.inl (hw _ (List.mem_of_getElem? (i := 103) rfl))) (Or.inl (hw _ (List.mem_of_getElem? (i := 176) rfl))) (by decide) (t := (.object "java/lang/Object")) (t' := (.object "java/util/TreeMap$Entry")) (by decide) (by decide)))) (((hr.2.2.1.ext E1).keep K2 (ninS (nea (by omega)) nin0)).other W3 (Or.inr (slot_ne (C := "java/util/TreeMap$Entry") (Or.inl (hw _ (List.mem_of_getElem? (i := 105) rfl))) (Or.inl (hw _ (List.mem_of_getElem? (i := 176) rfl))) (by decide) (t := (.object "java/lang/Object")) (t' := (.object "java/util/TreeMap$Entry")) (by decide) (by decide)))) (((hr.2.2.2.1.ext E1).keep K2 (ninS (nea (by omega)) nin0)).other W3 (Or.inr (slot_ne (C := "java/util/TreeMap$Entry") (Or.inl (hw _ (List.mem_of_getElem? (i := 201) rfl))) (Or.inl (hw _ (List.mem_of_getElem? (i := 176) rfl))) (by decide) (t := (.object "java/util/TreeMap$Entry")) (t' := (.object "java/util/TreeMap$Entry")) (by decide) (by decide)))) F3_right (((hr.2.2.2.2.2.1.ext E1).keep K2 (ninS (nea (by omega)) nin0)).other W3 (Or.inr (slot_ne (C := "java/util/TreeMap$Entry") (Or.inl (hw _ (List.mem_of_getElem? (i := 107) rfl))) (Or.inl (hw _ (List.mem_of_getElem? (i := 176) rfl))) (by decide) (t := (.object "java/util/TreeMap$Entry")) (t' := (.object "java/util/TreeMap$Entry")) (by decide) (by decide)))) (((hr.2.2.2.2.2.2.1.ext E1).keep K2 (ninS (nea (by omega)) nin0)).other W3 (Or.inr (slot_ne (C := "java/util/TreeMap$Entry") (Or.inl (hw _ (List.mem_of_getElem? (i := 101) rfl))) (Or.inl (hw _ (List.mem_of_getElem? (i := 176) rfl))) (by decide) (t := .boolean) (t' := (.object "java/util/TreeMap$Entry")) (by decide) (by decide))))) hZ (hw _ (List.mem_of_getElem? (i := 186) rfl)) (hw _ (List.mem_of_getElem? (i := 19) rfl)) (by decide) (by decide)) eT (hb hby d25_35) (by rw [hml]; rfl) [(.ref en)] [] (lenOf pd_7 rfl) rfl rfl (Nat.le_of_eq rfl) (by decide) (by decide) ?_
  intro v T L X hq
  obtain ⟨rfl, NQ, K4, En4, G4_key, G4_value, G4_left, G4_right, G4_parent, G4_color, Rn4, H4_key, H4_value, H4_left, H4_right, H4_parent, H4_color⟩ := hq
  have N := Fr.app N NQ
  obtain ⟨h4, eT⟩ : ∃ z, T.heap = z := ⟨_, rfl⟩
  rw [eT] at K4 G4_key G4_value G4_left G4_right G4_parent G4_color H4_key H4_value H4_left H4_right H4_parent H4_color
  have sz4 := K4.1
  show Gl p e below s _ _ _ (T.setTop (mkF m 38 #[.val (.ref t), .val (.ref k), .val v, .val (.ref r), .val (.int (0 : Int32)), .val (.ref en)] []))
  refine Gl.by (fun t_ k_ => XS.aloadN X.here hx rfl (hb hby d25_38) rfl rfl k_) ?_
  show Gl p e below s _ _ _ (T.setTop (mkF m 39 #[.val (.ref t), .val (.ref k), .val v, .val (.ref r), .val (.int (0 : Int32)), .val (.ref en)] [(.ref t)]))
  refine Gl.by (fun t_ k_ => XS.dup X.here hx rfl (hb hby d25_39) rfl rfl k_) ?_
  show Gl p e below s _ _ _ (T.setTop (mkF m 40 #[.val (.ref t), .val (.ref k), .val v, .val (.ref r), .val (.int (0 : Int32)), .val (.ref en)] [(.ref t), (.ref t)]))
  obtain ⟨T, X, eT, st⟩ := getF X hx hZ hown (host := "") (Or.inl (hw _ (List.mem_of_getElem? (i := 30) rfl))) Via.refl eT ((((ht.2.2.2.1.ext E1).keep K2 (ninS (ne_exa (ht.1.ext E1) A1 (by decide)) nin0)).other W3 (Or.inl (ne_exa ((ht.1.ext E1).keep K2) ((hr.1.ext E1).keep K2) (by decide)))).keep K4 (ninS (ne_exa (((ht.1.ext E1).keep K2).wr W3) ((A1.keep K2).wr W3) (by decide)) (ninS (ne_exa (((ht.1.ext E1).keep K2).wr W3) (((hr.1.ext E1).keep K2).wr W3) (by decide)) nin0))) (g := (mkF m 40 #[.val (.ref t), .val (.ref k), .val v, .val (.ref r), .val (.int (0 : Int32)), .val (.ref en)] [(.ref t), (.ref t)])) rfl rfl (hb hby d25_40)
  refine Gl.by st ?_
  show Gl p e below s _ _ _ (T.setTop (mkF m 43 #[.val (.ref t), .val (.ref k), .val v, .val (.ref r), .val (.int (0 : Int32)), .val (.ref en)] [(.int 1), (.ref t)]))
  refine Gl.by (fun t_ k_ => XS.iconst X.here hx rfl (hb hby d25_43) k_) ?_
  show Gl p e below s _ _ _ (T.setTop (mkF m 44 #[.val (.ref t), .val (.ref k), .val v, .val (.ref r), .val (.int (0 : Int32)), .val (.ref en)] [(.int (1 : Int32)), (.int 1), (.ref t)]))
  refine Gl.by (fun t_ k_ => XS.iadd X.here hx rfl (hb hby d25_44) rfl k_) ?_
  show Gl p e below s _ _ _ (T.setTop (mkF m 45 #[.val (.ref t), .val (.ref k), .val v, .val (.ref r), .val (.int (0 : Int32)), .val (.ref en)] [(.int (1 + (1 : Int32))), (.ref t)]))
  obtain ⟨T, h5, X, eT, W5, st⟩ := putF X hx hZ hown (host := "") (Or.inl (hw _ (List.mem_of_getElem? (i := 30) rfl))) Via.refl eT ((((ht.2.2.2.1.ext E1).keep K2 (ninS (ne_exa (ht.1.ext E1) A1 (by decide)) nin0)).other W3 (Or.inl (ne_exa ((ht.1.ext E1).keep K2) ((hr.1.ext E1).keep K2) (by decide)))).keep K4 (ninS (ne_exa (((ht.1.ext E1).keep K2).wr W3) ((A1.keep K2).wr W3) (by decide)) (ninS (ne_exa (((ht.1.ext E1).keep K2).wr W3) (((hr.1.ext E1).keep K2).wr W3) (by decide)) nin0))) ((((ht.1.ext E1).keep K2).wr W3).keep K4) (Or.inl (hw _ (List.mem_of_getElem? (i := 31) rfl))) (hw _ (List.mem_of_getElem? (i := 18) rfl)) (ty := .int) (by decide) rfl rfl (g := (mkF m 45 #[.val (.ref t), .val (.ref k), .val v, .val (.ref r), .val (.int (0 : Int32)), .val (.ref en)] [(.int (1 + (1 : Int32))), (.ref t)])) rfl rfl (hb hby d25_45)
  have F5_size : Fld Z h5 t "java/util/TreeMap" "size" "I" (.int (1 + (1 : Int32))) := Fld.same W5 ((((ht.2.2.2.1.ext E1).keep K2 (ninS (ne_exa (ht.1.ext E1) A1 (by decide)) nin0)).other W3 (Or.inl (ne_exa ((ht.1.ext E1).keep K2) ((hr.1.ext E1).keep K2) (by decide)))).keep K4 (ninS (ne_exa (((ht.1.ext E1).keep K2).wr W3) ((A1.keep K2).wr W3) (by decide)) (ninS (ne_exa (((ht.1.ext E1).keep K2).wr W3) (((hr.1.ext E1).keep K2).wr W3) (by decide)) nin0)))
  have sz5 := (Keep.of_wr W5).1
  have N := Fr.snoc X N (by omega)
  refine Gl.by st ?_
  show Gl p e below s _ _ _ (T.setTop (mkF m 48 #[.val (.ref t), .val (.ref k), .val v, .val (.ref r), .val (.int (0 : Int32)), .val (.ref en)] []))
  refine Gl.by (fun t_ k_ => XS.aloadN X.here hx rfl (hb hby d25_48) rfl rfl k_) ?_
  show Gl p e below s _ _ _ (T.setTop (mkF m 49 #[.val (.ref t), .val (.ref k), .val v, .val (.ref r), .val (.int (0 : Int32)), .val (.ref en)] [(.ref t)]))
  refine Gl.by (fun t_ k_ => XS.dup X.here hx rfl (hb hby d25_49) rfl rfl k_) ?_
  show Gl p e below s _ _ _ (T.setTop (mkF m 50 #[.val (.ref t), .val (.ref k), .val v, .val (.ref r), .val (.int (0 : Int32)), .val (.ref en)] [(.ref t), (.ref t)]))
  obtain ⟨T, X, eT, st⟩ := getF X hx hZ hown (host := "") (Or.inl (hw _ (List.mem_of_getElem? (i := 32) rfl))) Via.refl eT (((((ht.2.2.2.2.ext E1).keep K2 (ninS (ne_exa (ht.1.ext E1) A1 (by decide)) nin0)).other W3 (Or.inl (ne_exa ((ht.1.ext E1).keep K2) ((hr.1.ext E1).keep K2) (by decide)))).keep K4 (ninS (ne_exa (((ht.1.ext E1).keep K2).wr W3) ((A1.keep K2).wr W3) (by decide)) (ninS (ne_exa (((ht.1.ext E1).keep K2).wr W3) (((hr.1.ext E1).keep K2).wr W3) (by decide)) nin0))).other W5 (Or.inr (slot_ne (C := "java/util/TreeMap") (Or.inl (hw _ (List.mem_of_getElem? (i := 33) rfl))) (Or.inl (hw _ (List.mem_of_getElem? (i := 31) rfl))) (by decide) (t := .int) (t' := .int) (by decide) (by decide)))) (g := (mkF m 50 #[.val (.ref t), .val (.ref k), .val v, .val (.ref r), .val (.int (0 : Int32)), .val (.ref en)] [(.ref t), (.ref t)])) rfl rfl (hb hby d25_50)
  refine Gl.by st ?_
  show Gl p e below s _ _ _ (T.setTop (mkF m 53 #[.val (.ref t), .val (.ref k), .val v, .val (.ref r), .val (.int (0 : Int32)), .val (.ref en)] [(.int mc), (.ref t)]))
  refine Gl.by (fun t_ k_ => XS.iconst X.here hx rfl (hb hby d25_53) k_) ?_
  show Gl p e below s _ _ _ (T.setTop (mkF m 54 #[.val (.ref t), .val (.ref k), .val v, .val (.ref r), .val (.int (0 : Int32)), .val (.ref en)] [(.int (1 : Int32)), (.int mc), (.ref t)]))
  refine Gl.by (fun t_ k_ => XS.iadd X.here hx rfl (hb hby d25_54) rfl k_) ?_
  show Gl p e below s _ _ _ (T.setTop (mkF m 55 #[.val (.ref t), .val (.ref k), .val v, .val (.ref r), .val (.int (0 : Int32)), .val (.ref en)] [(.int (mc + (1 : Int32))), (.ref t)]))
  obtain ⟨T, h6, X, eT, W6, st⟩ := putF X hx hZ hown (host := "") (Or.inl (hw _ (List.mem_of_getElem? (i := 32) rfl))) Via.refl eT (((((ht.2.2.2.2.ext E1).keep K2 (ninS (ne_exa (ht.1.ext E1) A1 (by decide)) nin0)).other W3 (Or.inl (ne_exa ((ht.1.ext E1).keep K2) ((hr.1.ext E1).keep K2) (by decide)))).keep K4 (ninS (ne_exa (((ht.1.ext E1).keep K2).wr W3) ((A1.keep K2).wr W3) (by decide)) (ninS (ne_exa (((ht.1.ext E1).keep K2).wr W3) (((hr.1.ext E1).keep K2).wr W3) (by decide)) nin0))).other W5 (Or.inr (slot_ne (C := "java/util/TreeMap") (Or.inl (hw _ (List.mem_of_getElem? (i := 33) rfl))) (Or.inl (hw _ (List.mem_of_getElem? (i := 31) rfl))) (by decide) (t := .int) (t' := .int) (by decide) (by decide)))) (((((ht.1.ext E1).keep K2).wr W3).keep K4).wr W5) (Or.inl (hw _ (List.mem_of_getElem? (i := 33) rfl))) (hw _ (List.mem_of_getElem? (i := 18) rfl)) (ty := .int) (by decide) rfl rfl (g := (mkF m 55 #[.val (.ref t), .val (.ref k), .val v, .val (.ref r), .val (.int (0 : Int32)), .val (.ref en)] [(.int (mc + (1 : Int32))), (.ref t)])) rfl rfl (hb hby d25_55)
  have F6_modCount : Fld Z h6 t "java/util/TreeMap" "modCount" "I" (.int (mc + (1 : Int32))) := Fld.same W6 (((((ht.2.2.2.2.ext E1).keep K2 (ninS (ne_exa (ht.1.ext E1) A1 (by decide)) nin0)).other W3 (Or.inl (ne_exa ((ht.1.ext E1).keep K2) ((hr.1.ext E1).keep K2) (by decide)))).keep K4 (ninS (ne_exa (((ht.1.ext E1).keep K2).wr W3) ((A1.keep K2).wr W3) (by decide)) (ninS (ne_exa (((ht.1.ext E1).keep K2).wr W3) (((hr.1.ext E1).keep K2).wr W3) (by decide)) nin0))).other W5 (Or.inr (slot_ne (C := "java/util/TreeMap") (Or.inl (hw _ (List.mem_of_getElem? (i := 33) rfl))) (Or.inl (hw _ (List.mem_of_getElem? (i := 31) rfl))) (by decide) (t := .int) (t' := .int) (by decide) (by decide))))
  have sz6 := (Keep.of_wr W6).1
  have N := Fr.snoc X N (by omega)
  refine Gl.by st ?_
  show Gl p e below s _ _ _ (T.setTop (mkF m 58 #[.val (.ref t), .val (.ref k), .val v, .val (.ref r), .val (.int (0 : Int32)), .val (.ref en)] []))
  refine Gl.retV X hx hlk hret (hb hby d25_58) (by decide) (by decide) ?_
  rw [eT]
  exact ⟨rfl, N, (((((((Keep.refl h0 [t, r]).ext E1).trans K2 (allS (Or.inr (by omega)) all0)).wr W3 (Or.inl (by simp))).trans K4 (allS (Or.inr (by omega)) (allS (Or.inl (by simp)) all0))).wr W5 (Or.inl (by simp))).wr W6 (Or.inl (by simp))), en, by omega, _, ⟨((((((ht.1.ext E1).keep K2).wr W3).keep K4).wr W5).wr W6), ((((((ht.2.1.ext E1).keep K2 (ninS (ne_exa (ht.1.ext E1) A1 (by decide)) nin0)).other W3 (Or.inl (ne_exa ((ht.1.ext E1).keep K2) ((hr.1.ext E1).keep K2) (by decide)))).keep K4 (ninS (ne_exa (((ht.1.ext E1).keep K2).wr W3) ((A1.keep K2).wr W3) (by decide)) (ninS (ne_exa (((ht.1.ext E1).keep K2).wr W3) (((hr.1.ext E1).keep K2).wr W3) (by decide)) nin0))).other W5 (Or.inr (slot_ne (C := "java/util/TreeMap") (Or.inr (hw _ (List.mem_of_getElem? (i := 35) rfl))) (Or.inl (hw _ (List.mem_of_getElem? (i := 31) rfl))) (by decide) (t := (.object "java/util/Comparator")) (t' := .int) (by decide) (by decide)))).other W6 (Or.inr (slot_ne (C := "java/util/TreeMap") (Or.inr (hw _ (List.mem_of_getElem? (i := 35) rfl))) (Or.inl (hw _ (List.mem_of_getElem? (i := 33) rfl))) (by decide) (t := (.object "java/util/Comparator")) (t' := .int) (by decide) (by decide)))), ((((((ht.2.2.1.ext E1).keep K2 (ninS (ne_exa (ht.1.ext E1) A1 (by decide)) nin0)).other W3 (Or.inl (ne_exa ((ht.1.ext E1).keep K2) ((hr.1.ext E1).keep K2) (by decide)))).keep K4 (ninS (ne_exa (((ht.1.ext E1).keep K2).wr W3) ((A1.keep K2).wr W3) (by decide)) (ninS (ne_exa (((ht.1.ext E1).keep K2).wr W3) (((hr.1.ext E1).keep K2).wr W3) (by decide)) nin0))).other W5 (Or.inr (slot_ne (C := "java/util/TreeMap") (Or.inl (hw _ (List.mem_of_getElem? (i := 59) rfl))) (Or.inl (hw _ (List.mem_of_getElem? (i := 31) rfl))) (by decide) (t := (.object "java/util/TreeMap$Entry")) (t' := .int) (by decide) (by decide)))).other W6 (Or.inr (slot_ne (C := "java/util/TreeMap") (Or.inl (hw _ (List.mem_of_getElem? (i := 59) rfl))) (Or.inl (hw _ (List.mem_of_getElem? (i := 33) rfl))) (by decide) (t := (.object "java/util/TreeMap$Entry")) (t' := .int) (by decide) (by decide)))), (F5_size.other W6 (Or.inr (slot_ne (C := "java/util/TreeMap") (Or.inl (hw _ (List.mem_of_getElem? (i := 31) rfl))) (Or.inl (hw _ (List.mem_of_getElem? (i := 33) rfl))) (by decide) (t := .int) (t' := .int) (by decide) (by decide)))), F6_modCount⟩, ⟨((((((hr.1.ext E1).keep K2).wr W3).keep K4).wr W5).wr W6), ((H4_key.other W5 (Or.inl (ne_exa ((((hr.1.ext E1).keep K2).wr W3).keep K4) ((((ht.1.ext E1).keep K2).wr W3).keep K4) (by decide)))).other W6 (Or.inl (ne_exa (((((hr.1.ext E1).keep K2).wr W3).keep K4).wr W5) (((((ht.1.ext E1).keep K2).wr W3).keep K4).wr W5) (by decide)))), ((H4_value.other W5 (Or.inl (ne_exa ((((hr.1.ext E1).keep K2).wr W3).keep K4) ((((ht.1.ext E1).keep K2).wr W3).keep K4) (by decide)))).other W6 (Or.inl (ne_exa (((((hr.1.ext E1).keep K2).wr W3).keep K4).wr W5) (((((ht.1.ext E1).keep K2).wr W3).keep K4).wr W5) (by decide)))), ((H4_left.other W5 (Or.inl (ne_exa ((((hr.1.ext E1).keep K2).wr W3).keep K4) ((((ht.1.ext E1).keep K2).wr W3).keep K4) (by decide)))).other W6 (Or.inl (ne_exa (((((hr.1.ext E1).keep K2).wr W3).keep K4).wr W5) (((((ht.1.ext E1).keep K2).wr W3).keep K4).wr W5) (by decide)))), ((H4_right.other W5 (Or.inl (ne_exa ((((hr.1.ext E1).keep K2).wr W3).keep K4) ((((ht.1.ext E1).keep K2).wr W3).keep K4) (by decide)))).other W6 (Or.inl (ne_exa (((((hr.1.ext E1).keep K2).wr W3).keep K4).wr W5) (((((ht.1.ext E1).keep K2).wr W3).keep K4).wr W5) (by decide)))), ((H4_parent.other W5 (Or.inl (ne_exa ((((hr.1.ext E1).keep K2).wr W3).keep K4) ((((ht.1.ext E1).keep K2).wr W3).keep K4) (by decide)))).other W6 (Or.inl (ne_exa (((((hr.1.ext E1).keep K2).wr W3).keep K4).wr W5) (((((ht.1.ext E1).keep K2).wr W3).keep K4).wr W5) (by decide)))), ((H4_color.other W5 (Or.inl (ne_exa ((((hr.1.ext E1).keep K2).wr W3).keep K4) ((((ht.1.ext E1).keep K2).wr W3).keep K4) (by decide)))).other W6 (Or.inl (ne_exa (((((hr.1.ext E1).keep K2).wr W3).keep K4).wr W5) (((((ht.1.ext E1).keep K2).wr W3).keep K4).wr W5) (by decide)))), ⟨((((((hr.2.2.2.2.2.2.2.1.1.ext E1).keep K2).wr W3).keep K4).wr W5).wr W6), ((((((hr.2.2.2.2.2.2.2.1.2.ext E1).keep K2 (ninS (ne_exa (hr.2.2.2.2.2.2.2.1.1.ext E1) A1 (by decide)) nin0)).other W3 (Or.inl (ne_exa ((hr.2.2.2.2.2.2.2.1.1.ext E1).keep K2) ((hr.1.ext E1).keep K2) (by decide)))).keep K4 (ninS (ne_exa (((hr.2.2.2.2.2.2.2.1.1.ext E1).keep K2).wr W3) ((A1.keep K2).wr W3) (by decide)) (ninS (ne_exa (((hr.2.2.2.2.2.2.2.1.1.ext E1).keep K2).wr W3) (((hr.1.ext E1).keep K2).wr W3) (by decide)) nin0))).other W5 (Or.inl (ne_exa ((((hr.2.2.2.2.2.2.2.1.1.ext E1).keep K2).wr W3).keep K4) ((((ht.1.ext E1).keep K2).wr W3).keep K4) (by decide)))).other W6 (Or.inl (ne_exa (((((hr.2.2.2.2.2.2.2.1.1.ext E1).keep K2).wr W3).keep K4).wr W5) (((((ht.1.ext E1).keep K2).wr W3).keep K4).wr W5) (by decide))))⟩, hr.2.2.2.2.2.2.2.2⟩, ⟨(((((A1.keep K2).wr W3).keep K4).wr W5).wr W6), ((G4_key.other W5 (Or.inl (ne_exa (((A1.keep K2).wr W3).keep K4) ((((ht.1.ext E1).keep K2).wr W3).keep K4) (by decide)))).other W6 (Or.inl (ne_exa ((((A1.keep K2).wr W3).keep K4).wr W5) (((((ht.1.ext E1).keep K2).wr W3).keep K4).wr W5) (by decide)))), ((G4_value.other W5 (Or.inl (ne_exa (((A1.keep K2).wr W3).keep K4) ((((ht.1.ext E1).keep K2).wr W3).keep K4) (by decide)))).other W6 (Or.inl (ne_exa ((((A1.keep K2).wr W3).keep K4).wr W5) (((((ht.1.ext E1).keep K2).wr W3).keep K4).wr W5) (by decide)))), ((G4_left.other W5 (Or.inl (ne_exa (((A1.keep K2).wr W3).keep K4) ((((ht.1.ext E1).keep K2).wr W3).keep K4) (by decide)))).other W6 (Or.inl (ne_exa ((((A1.keep K2).wr W3).keep K4).wr W5) (((((ht.1.ext E1).keep K2).wr W3).keep K4).wr W5) (by decide)))), ((G4_right.other W5 (Or.inl (ne_exa (((A1.keep K2).wr W3).keep K4) ((((ht.1.ext E1).keep K2).wr W3).keep K4) (by decide)))).other W6 (Or.inl (ne_exa ((((A1.keep K2).wr W3).keep K4).wr W5) (((((ht.1.ext E1).keep K2).wr W3).keep K4).wr W5) (by decide)))), ((G4_parent.other W5 (Or.inl (ne_exa (((A1.keep K2).wr W3).keep K4) ((((ht.1.ext E1).keep K2).wr W3).keep K4) (by decide)))).other W6 (Or.inl (ne_exa ((((A1.keep K2).wr W3).keep K4).wr W5) (((((ht.1.ext E1).keep K2).wr W3).keep K4).wr W5) (by decide)))), ((G4_color.other W5 (Or.inl (ne_exa (((A1.keep K2).wr W3).keep K4) ((((ht.1.ext E1).keep K2).wr W3).keep K4) (by decide)))).other W6 (Or.inl (ne_exa ((((A1.keep K2).wr W3).keep K4).wr W5) (((((ht.1.ext E1).keep K2).wr W3).keep K4).wr W5) (by decide)))), ⟨((((((hk.1.ext E1).keep K2).wr W3).keep K4).wr W5).wr W6), ((((((hk.2.ext E1).keep K2 (ninS (ne_exa (hk.1.ext E1) A1 (by decide)) nin0)).other W3 (Or.inl (ne_exa ((hk.1.ext E1).keep K2) ((hr.1.ext E1).keep K2) (by decide)))).keep K4 (ninS (ne_exa (((hk.1.ext E1).keep K2).wr W3) ((A1.keep K2).wr W3) (by decide)) (ninS (ne_exa (((hk.1.ext E1).keep K2).wr W3) (((hr.1.ext E1).keep K2).wr W3) (by decide)) nin0))).other W5 (Or.inl (ne_exa ((((hk.1.ext E1).keep K2).wr W3).keep K4) ((((ht.1.ext E1).keep K2).wr W3).keep K4) (by decide)))).other W6 (Or.inl (ne_exa (((((hk.1.ext E1).keep K2).wr W3).keep K4).wr W5) (((((ht.1.ext E1).keep K2).wr W3).keep K4).wr W5) (by decide))))⟩, hv⟩⟩
set_option maxRecDepth 65536 in
set_option maxHeartbeats 40000000 in
theorem own_put3e (l : Launch) (Z : State) (a0 : Array Value) (hw : ∀ d ∈ tables_1, d.before a0 Z = true) (t k : Nat) (i mc : Int32) (v : Value) (h0 : Heap) (n0 : Nat) (Z0 : n0 ≤ h0.size) (Zt : n0 ≤ t) (ht : Tmo Z h0 t .null 0 mc) (hk : IntO Z h0 k i) (hv : v.isRef = true) :
    Ctr l Z (⟨"java/util/TreeMap", "put", "(Ljava/lang/Object;Ljava/lang/Object;Z)Ljava/lang/Object;"⟩ : MethodName) jdk_2729_method_31_code 10 (some (.object "java/lang/Object")) [] own_rP3 #[(.ref t), (.ref k), v, (.int (1 : Int32))] h0 (fun w h L => (∃ u, w = some u ∧ u.isRef = true) ∧ Fr n0 L ∧ Keep h0 h [t] ∧ ∃ r : Nat, h0.size ≤ r ∧ Map1 Z h t r k i v) := by
  refine Ctr.intro pn_3 #[.val (.ref t), .val (.ref k), .val v, .val (.int (1 : Int32)), .unset, .unset, .unset, .unset, .unset, .unset] (fun m => by rcases ref_cases hv with rfl | ⟨_, rfl⟩ <;> rfl) ?_
  intro p e s m below meth c T hx hby hml hown hnm hret hlk hZ X eT
  have hown : s.vm.findClass "java/util/TreeMap" = some m.cls := hown
  have N := Fr.nil n0
  show Gl p e below s _ _ _ (T.setTop (mkF m 0 #[.val (.ref t), .val (.ref k), .val v, .val (.int (1 : Int32)), .unset, .unset, .unset, .unset, .unset, .unset] []))
  refine Gl.by (fun t_ k_ => XS.aloadN X.here hx rfl (hb hby d8_0) rfl rfl k_) ?_
  show Gl p e below s _ _ _ (T.setTop (mkF m 1 #[.val (.ref t), .val (.ref k), .val v, .val (.int (1 : Int32)), .unset, .unset, .unset, .unset, .unset, .unset] [(.ref t)]))
  obtain ⟨T, X, eT, st⟩ := getF X hx hZ hown (host := "") (Or.inl (hw _ (List.mem_of_getElem? (i := 58) rfl))) Via.refl eT ht.2.2.1 (g := (mkF m 1 #[.val (.ref t), .val (.ref k), .val v, .val (.int (1 : Int32)), .unset, .unset, .unset, .unset, .unset, .unset] [(.ref t)])) rfl rfl (hb hby d8_1)
  refine Gl.by st ?_
  show Gl p e below s _ _ _ (T.setTop (mkF m 4 #[.val (.ref t), .val (.ref k), .val v, .val (.int (1 : Int32)), .unset, .unset, .unset, .unset, .unset, .unset] [.null]))
  refine Gl.by (fun t_ k_ => XS.astore X.here hx rfl (hb hby d8_4) rfl rfl (l' := #[.val (.ref t), .val (.ref k), .val v, .val (.int (1 : Int32)), .val .null, .unset, .unset, .unset, .unset, .unset]) rfl k_) ?_
  show Gl p e below s _ _ _ (T.setTop (mkF m 6 #[.val (.ref t), .val (.ref k), .val v, .val (.int (1 : Int32)), .val .null, .unset, .unset, .unset, .unset, .unset] []))
  refine Gl.by (fun t_ k_ => XS.aload X.here hx rfl (hb hby d8_6) rfl rfl k_) ?_
  show Gl p e below s _ _ _ (T.setTop (mkF m 8 #[.val (.ref t), .val (.ref k), .val v, .val (.int (1 : Int32)), .val .null, .unset, .unset, .unset, .unset, .unset] [.null]))
  refine Gl.by (fun t_ k_ => XS.ifnonnullNo X.here hx rfl (hb hby d8_8) rfl k_) ?_
  show Gl p e below s _ _ _ (T.setTop (mkF m 11 #[.val (.ref t), .val (.ref k), .val v, .val (.int (1 : Int32)), .val .null, .unset, .unset, .unset, .unset, .unset] []))
  refine Gl.by (fun t_ k_ => XS.aloadN X.here hx rfl (hb hby d8_11) rfl rfl k_) ?_
  show Gl p e below s _ _ _ (T.setTop (mkF m 12 #[.val (.ref t), .val (.ref k), .val v, .val (.int (1 : Int32)), .val .null, .unset, .unset, .unset, .unset, .unset] [(.ref t)]))
  refine Gl.by (fun t_ k_ => XS.aloadN X.here hx rfl (hb hby d8_12) rfl rfl k_) ?_
  show Gl p e below s _ _ _ (T.setTop (mkF m 13 #[.val (.ref t), .val (.ref k), .val v, .val (.int (1 : Int32)), .val .null, .unset, .unset, .unset, .unset, .unset] [(.ref k), (.ref t)]))
  refine Gl.by (fun t_ k_ => XS.aloadN X.here hx rfl (hb hby d8_13) rfl hv k_) ?_
  show Gl p e below s _ _ _ (T.setTop (mkF m 14 #[.val (.ref t), .val (.ref k), .val v, .val (.int (1 : Int32)), .val .null, .unset, .unset, .unset, .unset, .unset] [v, (.ref k), (.ref t)]))
  refine Gl.priv X hx hZ hown (hw _ (List.mem_of_getElem? (i := 60) rfl)) (hw _ (List.mem_of_getElem? (i := 61) rfl)) (hw _ (List.mem_of_getElem? (i := 63) rfl)) (hw _ (List.mem_of_getElem? (i := 62) rfl)) (hw _ (List.mem_of_getElem? (i := 64) rfl)) (by decide) ht.1 (W := 0) (backC (own_ade l Z a0 hw t k i mc v h0 n0 Z0 Zt ht hk hv) hZ (hw _ (List.mem_of_getElem? (i := 64) rfl)) (hw _ (List.mem_of_getElem? (i := 19) rfl)) (by decide) (by decide)) eT (hb hby d8_14) (by rw [hml]; rfl) [(.ref k), v] [] (lenOf pd_8 rfl) rfl rfl (Nat.le_of_eq rfl) (by decide) (by decide) ?_
  intro v T L X hq
  obtain ⟨rfl, NQ, K1, r, gr, F1⟩ := hq
  have N := Fr.app N NQ
  obtain ⟨h1, eT⟩ : ∃ z, T.heap = z := ⟨_, rfl⟩
  rw [eT] at K1 F1
  have sz1 := K1.1
  show Gl p e below s _ _ _ (T.setTop (mkF m 17 #[.val (.ref t), .val (.ref k), .val v, .val (.int (1 : Int32)), .val .null, .unset, .unset, .unset, .unset, .unset] []))
  refine Gl.by (fun t_ k_ => XS.aconstNull X.here hx rfl (hb hby d8_17) k_) ?_
  show Gl p e below s _ _ _ (T.setTop (mkF m 18 #[.val (.ref t), .val (.ref k), .val v, .val (.int (1 : Int32)), .val .null, .unset, .unset, .unset, .unset, .unset] [.null]))
  refine Gl.retA X hx hlk hret rfl rfl (hb hby d8_18) (by decide) (by decide) ?_
  rw [eT]
  exact ⟨⟨_, rfl, rfl⟩, N, K1, r, gr, F1⟩
set_option maxRecDepth 65536 in
set_option maxHeartbeats 40000000 in
theorem own_put3o (l : Launch) (Z : State) (a0 : Array Value) (hw : ∀ d ∈ tables_1, d.before a0 Z = true) (t r k k1 : Nat) (i i1 : Int32) (v v1 : Value) (h0 : Heap) (n0 : Nat) (Z0 : n0 ≤ h0.size) (Zt : n0 ≤ t) (Zr : n0 ≤ r) (hm : Map1 Z h0 t r k1 i1 v1) (hk : IntO Z h0 k i) (hv : v.isRef = true) :
    Ctr l Z (⟨"java/util/TreeMap", "put", "(Ljava/lang/Object;Ljava/lang/Object;Z)Ljava/lang/Object;"⟩ : MethodName) jdk_2729_method_31_code 10 (some (.object "java/lang/Object")) [] own_rP3 #[(.ref t), (.ref k), v, (.int (1 : Int32))] h0 (fun w h L => (∃ u, w = some u ∧ u.isRef = true) ∧ Fr n0 L ∧ Keep h0 h [t, r] ∧ ((i = i1 ∧ Map1 Z h t r k1 i1 v) ∨ (¬ i = i1 ∧ ∃ en : Nat, h0.size ≤ en ∧ Map2 Z h t r k1 i1 v1 en k i v))) := by
  refine Ctr.intro pn_3 #[.val (.ref t), .val (.ref k), .val v, .val (.int (1 : Int32)), .unset, .unset, .unset, .unset, .unset, .unset] (fun m => by rcases ref_cases hv with rfl | ⟨_, rfl⟩ <;> rfl) ?_
  intro p e s m below meth c T hx hby hml hown hnm hret hlk hZ X eT
  have hown : s.vm.findClass "java/util/TreeMap" = some m.cls := hown
  have N := Fr.nil n0
  obtain ⟨mc, ht, hr⟩ := hm
  have hv1 := hr.2.2.2.2.2.2.2.2
  show Gl p e below s _ _ _ (T.setTop (mkF m 0 #[.val (.ref t), .val (.ref k), .val v, .val (.int (1 : Int32)), .unset, .unset, .unset, .unset, .unset, .unset] []))
  refine Gl.by (fun t_ k_ => XS.aloadN X.here hx rfl (hb hby d8_0) rfl rfl k_) ?_
  show Gl p e below s _ _ _ (T.setTop (mkF m 1 #[.val (.ref t), .val (.ref k), .val v, .val (.int (1 : Int32)), .unset, .unset, .unset, .unset, .unset, .unset] [(.ref t)]))
  obtain ⟨T, X, eT, st⟩ := getF X hx hZ hown (host := "") (Or.inl (hw _ (List.mem_of_getElem? (i := 58) rfl))) Via.refl eT ht.2.2.1 (g := (mkF m 1 #[.val (.ref t), .val (.ref k), .val v, .val (.int (1 : Int32)), .unset, .unset, .unset, .unset, .unset, .unset] [(.ref t)])) rfl rfl (hb hby d8_1)
  refine Gl.by st ?_
  show Gl p e below s _ _ _ (T.setTop (mkF m 4 #[.val (.ref t), .val (.ref k), .val v, .val (.int (1 : Int32)), .unset, .unset, .unset, .unset, .unset, .unset] [(.ref r)]))
  refine Gl.by (fun t_ k_ => XS.astore X.here hx rfl (hb hby d8_4) rfl rfl (l' := #[.val (.ref t), .val (.ref k), .val v, .val (.int (1 : Int32)), .val (.ref r), .unset, .unset, .unset, .unset, .unset]) rfl k_) ?_
  show Gl p e below s _ _ _ (T.setTop (mkF m 6 #[.val (.ref t), .val (.ref k), .val v, .val (.int (1 : Int32)), .val (.ref r), .unset, .unset, .unset, .unset, .unset] []))
  refine Gl.by (fun t_ k_ => XS.aload X.here hx rfl (hb hby d8_6) rfl rfl k_) ?_
  show Gl p e below s _ _ _ (T.setTop (mkF m 8 #[.val (.ref t), .val (.ref k), .val v, .val (.int (1 : Int32)), .val (.ref r), .unset, .unset, .unset, .unset, .unset] [(.ref r)]))
  refine Gl.by (fun t_ k_ => XS.ifnonnullYes X.here hx rfl (pc0 := 8) (pc' := 19) rfl (hb hby d8_8) rfl (by decide) (by decide) k_) ?_
  show Gl p e below s _ _ _ (T.setTop (mkF m 19 #[.val (.ref t), .val (.ref k), .val v, .val (.int (1 : Int32)), .val (.ref r), .unset, .unset, .unset, .unset, .unset] []))
  refine Gl.by (fun t_ k_ => XS.aloadN X.here hx rfl (hb hby d8_19) rfl rfl k_) ?_
  show Gl p e below s _ _ _ (T.setTop (mkF m 20 #[.val (.ref t), .val (.ref k), .val v, .val (.int (1 : Int32)), .val (.ref r), .unset, .unset, .unset, .unset, .unset] [(.ref t)]))
  obtain ⟨T, X, eT, st⟩ := getF X hx hZ hown (host := "") (Or.inl (hw _ (List.mem_of_getElem? (i := 34) rfl))) Via.refl eT ht.2.1 (g := (mkF m 20 #[.val (.ref t), .val (.ref k), .val v, .val (.int (1 : Int32)), .val (.ref r), .unset, .unset, .unset, .unset, .unset] [(.ref t)])) rfl rfl (hb hby d8_20)
  refine Gl.by st ?_
  show Gl p e below s _ _ _ (T.setTop (mkF m 23 #[.val (.ref t), .val (.ref k), .val v, .val (.int (1 : Int32)), .val (.ref r), .unset, .unset, .unset, .unset, .unset] [.null]))
  refine Gl.by (fun t_ k_ => XS.astore X.here hx rfl (hb hby d8_23) rfl rfl (l' := #[.val (.ref t), .val (.ref k), .val v, .val (.int (1 : Int32)), .val (.ref r), .unset, .unset, .val .null, .unset, .unset]) rfl k_) ?_
  show Gl p e below s _ _ _ (T.setTop (mkF m 25 #[.val (.ref t), .val (.ref k), .val v, .val (.int (1 : Int32)), .val (.ref r), .unset, .unset, .val .null, .unset, .unset] []))
  refine Gl.by (fun t_ k_ => XS.aload X.here hx rfl (hb hby d8_25) rfl rfl k_) ?_
  show Gl p e below s _ _ _ (T.setTop (mkF m 27 #[.val (.ref t), .val (.ref k), .val v, .val (.int (1 : Int32)), .val (.ref r), .unset, .unset, .val .null, .unset, .unset] [.null]))
  refine Gl.by (fun t_ k_ => XS.ifnullYes X.here hx rfl (pc0 := 27) (pc' := 112) rfl (hb hby d8_27) rfl (by decide) (by decide) k_) ?_
  show Gl p e below s _ _ _ (T.setTop (mkF m 112 #[.val (.ref t), .val (.ref k), .val v, .val (.int (1 : Int32)), .val (.ref r), .unset, .unset, .val .null, .unset, .unset] []))
  refine Gl.by (fun t_ k_ => XS.aloadN X.here hx rfl (hb hby d8_112) rfl rfl k_) ?_
  show Gl p e below s _ _ _ (T.setTop (mkF m 113 #[.val (.ref t), .val (.ref k), .val v, .val (.int (1 : Int32)), .val (.ref r), .unset, .unset, .val .null, .unset, .unset] [(.ref k)]))
  refine Gl.stat X hx hZ hown (hw _ (List.mem_of_getElem? (i := 108) rfl)) (hw _ (List.mem_of_getElem? (i := 109) rfl)) (hw _ (List.mem_of_getElem? (i := 110) rfl)) (hw _ (List.mem_of_getElem? (i := 111) rfl)) (by decide) (W := 0) (backC (own_rnn l Z a0 hw k h0 n0) hZ (hw _ (List.mem_of_getElem? (i := 111) rfl)) (hw _ (List.mem_of_getElem? (i := 110) rfl)) (by decide) (by decide)) eT (hb hby d8_113) (by rw [hml]; rfl) [(.ref k)] [] (lenOf pd_9 rfl) rfl rfl (Nat.le_of_eq rfl) (by decide) (by decide) ?_
  intro v T L X hq
  obtain ⟨rfl, rfl, eT⟩ := hq
  have N := Fr.app N (Fr.nil n0)
  show Gl p e below s _ _ _ (T.setTop (mkF m 116 #[.val (.ref t), .val (.ref k), .val v, .val (.int (1 : Int32)), .val (.ref r), .unset, .unset, .val .null, .unset, .unset] [(.ref k)]))
  refine Gl.by (fun t_ k_ => XS.pop X.here hx rfl (hb hby d8_116) rfl rfl k_) ?_
  show Gl p e below s _ _ _ (T.setTop (mkF m 117 #[.val (.ref t), .val (.ref k), .val v, .val (.int (1 : Int32)), .val (.ref r), .unset, .unset, .val .null, .unset, .unset] []))
  refine Gl.by (fun t_ k_ => XS.aloadN X.here hx rfl (hb hby d8_117) rfl rfl k_) ?_
  show Gl p e below s _ _ _ (T.setTop (mkF m 118 #[.val (.ref t), .val (.ref k), .val v, .val (.int (1 : Int32)), .val (.ref r), .unset, .unset, .val .null, .unset, .unset] [(.ref k)]))
  obtain ⟨T, X, eT, st⟩ := castY X hx hZ hown (hw _ (List.mem_of_getElem? (i := 70) rfl)) eT (Ins.of_exa hk.1 (hw _ (List.mem_of_getElem? (i := 71) rfl))) (g := (mkF m 118 #[.val (.ref t), .val (.ref k), .val v, .val (.int (1 : Int32)), .val (.ref r), .unset, .unset, .val .null, .unset, .unset] [(.ref k)])) rfl rfl (hb hby d8_118)
  refine Gl.by st ?_
  show Gl p e below s _ _ _ (T.setTop (mkF m 121 #[.val (.ref t), .val (.ref k), .val v, .val (.int (1 : Int32)), .val (.ref r), .unset, .unset, .val .null, .unset, .unset] [(.ref k)]))
  refine Gl.by (fun t_ k_ => XS.astore X.here hx rfl (hb hby d8_121) rfl rfl (l' := #[.val (.ref t), .val (.ref k), .val v, .val (.int (1 : Int32)), .val (.ref r), .unset, .unset, .val .null, .val (.ref k), .unset]) rfl k_) ?_
  show Gl p e below s _ _ _ (T.setTop (mkF m 123 #[.val (.ref t), .val (.ref k), .val v, .val (.int (1 : Int32)), .val (.ref r), .unset, .unset, .val .null, .val (.ref k), .unset] []))
  refine Gl.by (fun t_ k_ => XS.aload X.here hx rfl (hb hby d8_123) rfl rfl k_) ?_
  show Gl p e below s _ _ _ (T.setTop (mkF m 125 #[.val (.ref t), .val (.ref k), .val v, .val (.int (1 : Int32)), .val (.ref r), .unset, .unset, .val .null, .val (.ref k), .unset] [(.ref r)]))
  refine Gl.by (fun t_ k_ => XS.astore X.here hx rfl (hb hby d8_125) rfl rfl (l' := #[.val (.ref t), .val (.ref k), .val v, .val (.int (1 : Int32)), .val (.ref r), .unset, .val (.ref r), .val .null, .val (.ref k), .unset]) rfl k_) ?_
  show Gl p e below s _ _ _ (T.setTop (mkF m 127 #[.val (.ref t), .val (.ref k), .val v, .val (.int (1 : Int32)), .val (.ref r), .unset, .val (.ref r), .val .null, .val (.ref k), .unset] []))
  refine Gl.by (fun t_ k_ => XS.aload X.here hx rfl (hb hby d8_127) rfl rfl k_) ?_
  show Gl p e below s _ _ _ (T.setTop (mkF m 129 #[.val (.ref t), .val (.ref k), .val v, .val (.int (1 : Int32)), .val (.ref r), .unset, .val (.ref r), .val .null, .val (.ref k), .unset] [(.ref k)]))
  refine Gl.by (fun t_ k_ => XS.aload X.here hx rfl (hb hby d8_129) rfl rfl k_) ?_
  show Gl p e below s _ _ _ (T.setTop (mkF m 131 #[.val (.ref t), .val (.ref k), .val v, .val (.int (1 : Int32)), .val (.ref r), .unset, .val (.ref r), .val .null, .val (.ref k), .unset] [(.ref r), (.ref k)]))
  obtain ⟨T, X, eT, st⟩ := getF X hx hZ hown (host := "") (Or.inl (hw _ (List.mem_of_getElem? (i := 112) rfl))) Via.refl eT hr.2.1 (g := (mkF m 131 #[.val (.ref t), .val (.ref k), .val v, .val (.int (1 : Int32)), .val (.ref r), .unset, .val (.ref r), .val .null, .val (.ref k), .unset] [(.ref r), (.ref k)])) rfl rfl (hb hby d8_131)
  refine Gl.by st ?_
  show Gl p e below s _ _ _ (T.setTop (mkF m 134 #[.val (.ref t), .val (.ref k), .val v, .val (.int (1 : Int32)), .val (.ref r), .unset, .val (.ref r), .val .null, .val (.ref k), .unset] [(.ref k1), (.ref k)]))
  refine Gl.face X hx hZ hown (hw _ (List.mem_of_getElem? (i := 72) rfl)) (hw _ (List.mem_of_getElem? (i := 73) rfl)) (mvT hZ (hw _ (List.mem_of_getElem? (i := 74) rfl))) (hw _ (List.mem_of_getElem? (i := 75) rfl)) (hw _ (List.mem_of_getElem? (i := 76) rfl)) (hw _ (List.mem_of_getElem? (i := 77) rfl)) (hw _ (List.mem_of_getElem? (i := 78) rfl)) (hw _ (List.mem_of_getElem? (i := 71) rfl)) (by decide) hk.1 (W := 0) (backC (own_ct2 l Z a0 hw k k1 i i1 h0 n0 hk hr.2.2.2.2.2.2.2.1) hZ (hw _ (List.mem_of_getElem? (i := 79) rfl)) (hw _ (List.mem_of_getElem? (i := 3) rfl)) (by decide) (by decide)) eT (hb hby d8_134) (by rw [hml]; rfl) [(.ref k1)] [] (lenOf pd_4 rfl) rfl rfl (Nat.le_of_eq rfl) (by decide) (by decide) ?_
  intro v T L X hq
  obtain ⟨rfl, rfl, eT⟩ := hq
  have N := Fr.app N (Fr.nil n0)
  show Gl p e below s _ _ _ (T.setTop (mkF m 139 #[.val (.ref t), .val (.ref k), .val v, .val (.int (1 : Int32)), .val (.ref r), .unset, .val (.ref r), .val .null, .val (.ref k), .unset] [(.int (cmp i i1))]))
  by_cases c1 : i < i1
  · have cne := lt_ne32 c1
    rw [(show cmp i i1 = -1 from if_pos c1)]
    show Gl p e below s _ _ _ (T.setTop (mkF m 139 #[.val (.ref t), .val (.ref k), .val v, .val (.int (1 : Int32)), .val (.ref r), .unset, .val (.ref r), .val .null, .val (.ref k), .unset] [(.int (-1 : Int32))]))
    refine Gl.by (fun t_ k_ => XS.istore X.here hx rfl (hb hby d8_139) rfl (l' := #[.val (.ref t), .val (.ref k), .val v, .val (.int (1 : Int32)), .val (.ref r), .val (.int (-1 : Int32)), .val (.ref r), .val .null, .val (.ref k), .unset]) rfl k_) ?_
    show Gl p e below s _ _ _ (T.setTop (mkF m 141 #[.val (.ref t), .val (.ref k), .val v, .val (.int (1 : Int32)), .val (.ref r), .val (.int (-1 : Int32)), .val (.ref r), .val .null, .val (.ref k), .unset] []))
    refine Gl.by (fun t_ k_ => XS.iload X.here hx rfl (hb hby d8_141) rfl k_) ?_
    show Gl p e below s _ _ _ (T.setTop (mkF m 143 #[.val (.ref t), .val (.ref k), .val v, .val (.int (1 : Int32)), .val (.ref r), .val (.int (-1 : Int32)), .val (.ref r), .val .null, .val (.ref k), .unset] [(.int (-1 : Int32))]))
    refine Gl.by (fun t_ k_ => XS.ifNo X.here hx rfl (hb hby d8_143) rfl ((if0 _ _).trans (tlt (by decide : (-1 : Int32) < 0)).2.1) k_) ?_
    show Gl p e below s _ _ _ (T.setTop (mkF m 146 #[.val (.ref t), .val (.ref k), .val v, .val (.int (1 : Int32)), .val (.ref r), .val (.int (-1 : Int32)), .val (.ref r), .val .null, .val (.ref k), .unset] []))
    refine Gl.by (fun t_ k_ => XS.aload X.here hx rfl (hb hby d8_146) rfl rfl k_) ?_
    show Gl p e below s _ _ _ (T.setTop (mkF m 148 #[.val (.ref t), .val (.ref k), .val v, .val (.int (1 : Int32)), .val (.ref r), .val (.int (-1 : Int32)), .val (.ref r), .val .null, .val (.ref k), .unset] [(.ref r)]))
    obtain ⟨T, X, eT, st⟩ := getF X hx hZ hown (host := "") (Or.inl (hw _ (List.mem_of_getElem? (i := 200) rfl))) Via.refl eT hr.2.2.2.1 (g := (mkF m 148 #[.val (.ref t), .val (.ref k), .val v, .val (.int (1 : Int32)), .val (.ref r), .val (.int (-1 : Int32)), .val (.ref r), .val .null, .val (.ref k), .unset] [(.ref r)])) rfl rfl (hb hby d8_148)
    refine Gl.by st ?_
    show Gl p e below s _ _ _ (T.setTop (mkF m 151 #[.val (.ref t), .val (.ref k), .val v, .val (.int (1 : Int32)), .val (.ref r), .val (.int (-1 : Int32)), .val (.ref r), .val .null, .val (.ref k), .unset] [.null]))
    refine Gl.by (fun t_ k_ => XS.astore X.here hx rfl (hb hby d8_151) rfl rfl (l' := #[.val (.ref t), .val (.ref k), .val v, .val (.int (1 : Int32)), .val .null, .val (.int (-1 : Int32)), .val (.ref r), .val .null, .val (.ref k), .unset]) rfl k_) ?_
    show Gl p e below s _ _ _ (T.setTop (mkF m 153 #[.val (.ref t), .val (.ref k), .val v, .val (.int (1 : Int32)), .val .null, .val (.int (-1 : Int32)), .val (.ref r), .val .null, .val (.ref k), .unset] []))
    refine Gl.by (fun t_ k_ => XS.goto X.here hx rfl (pc0 := 153) (pc' := 196) rfl (hb hby d8_153) (by decide) (by decide) k_) ?_
    show Gl p e below s _ _ _ (T.setTop (mkF m 196 #[.val (.ref t), .val (.ref k), .val v, .val (.int (1 : Int32)), .val .null, .val (.int (-1 : Int32)), .val (.ref r), .val .null, .val (.ref k), .unset] []))
    refine Gl.by (fun t_ k_ => XS.aload X.here hx rfl (hb hby d8_196) rfl rfl k_) ?_
    show Gl p e below s _ _ _ (T.setTop (mkF m 198 #[.val (.ref t), .val (.ref k), .val v, .val (.int (1 : Int32)), .val .null, .val (.int (-1 : Int32)), .val (.ref r), .val .null, .val (.ref k), .unset] [.null]))
    refine Gl.by (fun t_ k_ => XS.ifnonnullNo X.here hx rfl (hb hby d8_198) rfl k_) ?_
    show Gl p e below s _ _ _ (T.setTop (mkF m 201 #[.val (.ref t), .val (.ref k), .val v, .val (.int (1 : Int32)), .val .null, .val (.int (-1 : Int32)), .val (.ref r), .val .null, .val (.ref k), .unset] []))
    refine Gl.by (fun t_ k_ => XS.aloadN X.here hx rfl (hb hby d8_201) rfl rfl k_) ?_
    show Gl p e below s _ _ _ (T.setTop (mkF m 202 #[.val (.ref t), .val (.ref k), .val v, .val (.int (1 : Int32)), .val .null, .val (.int (-1 : Int32)), .val (.ref r), .val .null, .val (.ref k), .unset] [(.ref t)]))
    refine Gl.by (fun t_ k_ => XS.aloadN X.here hx rfl (hb hby d8_202) rfl rfl k_) ?_
    show Gl p e below s _ _ _ (T.setTop (mkF m 203 #[.val (.ref t), .val (.ref k), .val v, .val (.int (1 : Int32)), .val .null, .val (.int (-1 : Int32)), .val (.ref r), .val .null, .val (.ref k), .unset] [(.ref k), (.ref t)]))
    refine Gl.by (fun t_ k_ => XS.aloadN X.here hx rfl (hb hby d8_203) rfl hv k_) ?_
    show Gl p e below s _ _ _ (T.setTop (mkF m 204 #[.val (.ref t), .val (.ref k), .val v, .val (.int (1 : Int32)), .val .null, .val (.int (-1 : Int32)), .val (.ref r), .val .null, .val (.ref k), .unset] [v, (.ref k), (.ref t)]))
    refine Gl.by (fun t_ k_ => XS.aload X.here hx rfl (hb hby d8_204) rfl rfl k_) ?_
    show Gl p e below s _ _ _ (T.setTop (mkF m 206 #[.val (.ref t), .val (.ref k), .val v, .val (.int (1 : Int32)), .val .null, .val (.int (-1 : Int32)), .val (.ref r), .val .null, .val (.ref k), .unset] [(.ref r), v, (.ref k), (.ref t)]))
    refine Gl.by (fun t_ k_ => XS.iload X.here hx rfl (hb hby d8_206) rfl k_) ?_
    show Gl p e below s _ _ _ (T.setTop (mkF m 208 #[.val (.ref t), .val (.ref k), .val v, .val (.int (1 : Int32)), .val .null, .val (.int (-1 : Int32)), .val (.ref r), .val .null, .val (.ref k), .unset] [(.int (-1 : Int32)), (.ref r), v, (.ref k), (.ref t)]))
    refine Gl.by (fun t_ k_ => XS.ifNo X.here hx rfl (hb hby d8_208) rfl ((if0 _ _).trans (tlt (by decide : (-1 : Int32) < 0)).2.1) k_) ?_
    show Gl p e below s _ _ _ (T.setTop (mkF m 211 #[.val (.ref t), .val (.ref k), .val v, .val (.int (1 : Int32)), .val .null, .val (.int (-1 : Int32)), .val (.ref r), .val .null, .val (.ref k), .unset] [(.ref r), v, (.ref k), (.ref t)]))
    refine Gl.by (fun t_ k_ => XS.iconst X.here hx rfl (hb hby d8_211) k_) ?_
    show Gl p e below s _ _ _ (T.setTop (mkF m 212 #[.val (.ref t), .val (.ref k), .val v, .val (.int (1 : Int32)), .val .null, .val (.int (-1 : Int32)), .val (.ref r), .val .null, .val (.ref k), .unset] [(.int (1 : Int32)), (.ref r), v, (.ref k), (.ref t)]))
    refine Gl.by (fun t_ k_ => XS.goto X.here hx rfl (pc0 := 212) (pc' := 216) rfl (hb hby d8_212) (by decide) (by decide) k_) ?_
    show Gl p e below s _ _ _ (T.setTop (mkF m 216 #[.val (.ref t), .val (.ref k), .val v, .val (.int (1 : Int32)), .val .null, .val (.int (-1 : Int32)), .val (.ref r), .val .null, .val (.ref k), .unset] [(.int (1 : Int32)), (.ref r), v, (.ref k), (.ref t)]))
    refine Gl.priv X hx hZ hown (hw _ (List.mem_of_getElem? (i := 177) rfl)) (hw _ (List.mem_of_getElem? (i := 178) rfl)) (hw _ (List.mem_of_getElem? (i := 180) rfl)) (hw _ (List.mem_of_getElem? (i := 179) rfl)) (hw _ (List.mem_of_getElem? (i := 181) rfl)) (by decide) ht.1 (W := 0) (backC (own_addL l Z a0 hw t k r k1 i i1 mc v v1 h0 n0 Z0 Zt Zr ht hr hk hv) hZ (hw _ (List.mem_of_getElem? (i := 181) rfl)) (hw _ (List.mem_of_getElem? (i := 19) rfl)) (by decide) (by decide)) eT (hb hby d8_216) (by rw [hml]; rfl) [(.ref k), v, (.ref r), (.int (1 : Int32))] [] (lenOf pd_10 rfl) rfl rfl (Nat.le_of_eq rfl) (by decide) (by decide) ?_
    intro v T L X hq
    obtain ⟨rfl, NQ, K1, en, ge, mc2, F1, G1, H1⟩ := hq
    have N := Fr.app N NQ
    obtain ⟨h1, eT⟩ : ∃ z, T.heap = z := ⟨_, rfl⟩
    rw [eT] at K1 F1 G1 H1
    have sz1 := K1.1
    show Gl p e below s _ _ _ (T.setTop (mkF m 219 #[.val (.ref t), .val (.ref k), .val v, .val (.int (1 : Int32)), .val .null, .val (.int (-1 : Int32)), .val (.ref r), .val .null, .val (.ref k), .unset] []))
    refine Gl.by (fun t_ k_ => XS.aconstNull X.here hx rfl (hb hby d8_219) k_) ?_
    show Gl p e below s _ _ _ (T.setTop (mkF m 220 #[.val (.ref t), .val (.ref k), .val v, .val (.int (1 : Int32)), .val .null, .val (.int (-1 : Int32)), .val (.ref r), .val .null, .val (.ref k), .unset] [.null]))
    refine Gl.retA X hx hlk hret rfl rfl (hb hby d8_220) (by decide) (by decide) ?_
    rw [eT]
    refine ⟨⟨_, rfl, rfl⟩, N, K1, Or.inr ⟨cne, en, ge, cne, mc2, F1, ?_, H1⟩⟩
    rw [if_pos c1, if_pos c1]
    exact G1
  · by_cases c2 : i = i1
    · rw [(show cmp i i1 = 0 from (if_neg c1).trans (if_pos c2))]
      show Gl p e below s _ _ _ (T.setTop (mkF m 139 #[.val (.ref t), .val (.ref k), .val v, .val (.int (1 : Int32)), .val (.ref r), .unset, .val (.ref r), .val .null, .val (.ref k), .unset] [(.int (0 : Int32))]))
      refine Gl.by (fun t_ k_ => XS.istore X.here hx rfl (hb hby d8_139) rfl (l' := #[.val (.ref t), .val (.ref k), .val v, .val (.int (1 : Int32)), .val (.ref r), .val (.int (0 : Int32)), .val (.ref r), .val .null, .val (.ref k), .unset]) rfl k_) ?_
      show Gl p e below s _ _ _ (T.setTop (mkF m 141 #[.val (.ref t), .val (.ref k), .val v, .val (.int (1 : Int32)), .val (.ref r), .val (.int (0 : Int32)), .val (.ref r), .val .null, .val (.ref k), .unset] []))
      refine Gl.by (fun t_ k_ => XS.iload X.here hx rfl (hb hby d8_141) rfl k_) ?_
      show Gl p e below s _ _ _ (T.setTop (mkF m 143 #[.val (.ref t), .val (.ref k), .val v, .val (.int (1 : Int32)), .val (.ref r), .val (.int (0 : Int32)), .val (.ref r), .val .null, .val (.ref k), .unset] [(.int (0 : Int32))]))
      refine Gl.by (fun t_ k_ => XS.ifYes X.here hx rfl (pc0 := 143) (pc' := 156) rfl (hb hby d8_143) rfl ((if0 _ _).trans (flt (by decide : ¬ (0 : Int32) < 0)).2.1) (by decide) (by decide) k_) ?_
      show Gl p e below s _ _ _ (T.setTop (mkF m 156 #[.val (.ref t), .val (.ref k), .val v, .val (.int (1 : Int32)), .val (.ref r), .val (.int (0 : Int32)), .val (.ref r), .val .null, .val (.ref k), .unset] []))
      refine Gl.by (fun t_ k_ => XS.iload X.here hx rfl (hb hby d8_156) rfl k_) ?_
      show Gl p e below s _ _ _ (T.setTop (mkF m 158 #[.val (.ref t), .val (.ref k), .val v, .val (.int (1 : Int32)), .val (.ref r), .val (.int (0 : Int32)), .val (.ref r), .val .null, .val (.ref k), .unset] [(.int (0 : Int32))]))
      refine Gl.by (fun t_ k_ => XS.ifYes X.here hx rfl (pc0 := 158) (pc' := 171) rfl (hb hby d8_158) rfl ((if0 _ _).trans (flt (by decide : ¬ (0 : Int32) < 0)).2.2.2) (by decide) (by decide) k_) ?_
      show Gl p e below s _ _ _ (T.setTop (mkF m 171 #[.val (.ref t), .val (.ref k), .val v, .val (.int (1 : Int32)), .val (.ref r), .val (.int (0 : Int32)), .val (.ref r), .val .null, .val (.ref k), .unset] []))
      refine Gl.by (fun t_ k_ => XS.aload X.here hx rfl (hb hby d8_171) rfl rfl k_) ?_
      show Gl p e below s _ _ _ (T.setTop (mkF m 173 #[.val (.ref t), .val (.ref k), .val v, .val (.int (1 : Int32)), .val (.ref r), .val (.int (0 : Int32)), .val (.ref r), .val .null, .val (.ref k), .unset] [(.ref r)]))
      obtain ⟨T, X, eT, st⟩ := getF X hx hZ hown (host := "") (Or.inl (hw _ (List.mem_of_getElem? (i := 113) rfl))) Via.refl eT hr.2.2.1 (g := (mkF m 173 #[.val (.ref t), .val (.ref k), .val v, .val (.int (1 : Int32)), .val (.ref r), .val (.int (0 : Int32)), .val (.ref r), .val .null, .val (.ref k), .unset] [(.ref r)])) rfl rfl (hb hby d8_173)
      refine Gl.by st ?_
      show Gl p e below s _ _ _ (T.setTop (mkF m 176 #[.val (.ref t), .val (.ref k), .val v, .val (.int (1 : Int32)), .val (.ref r), .val (.int (0 : Int32)), .val (.ref r), .val .null, .val (.ref k), .unset] [v1]))
      refine Gl.by (fun t_ k_ => XS.astore X.here hx rfl (hb hby d8_176) rfl hv1 (l' := #[.val (.ref t), .val (.ref k), .val v, .val (.int (1 : Int32)), .val (.ref r), .val (.int (0 : Int32)), .val (.ref r), .val .null, .val (.ref k), .val v1]) (XS.store1 rfl (Or.inl rfl) (isref_cat hv1)) k_) ?_
      show Gl p e below s _ _ _ (T.setTop (mkF m 178 #[.val (.ref t), .val (.ref k), .val v, .val (.int (1 : Int32)), .val (.ref r), .val (.int (0 : Int32)), .val (.ref r), .val .null, .val (.ref k), .val v1] []))
      refine Gl.by (fun t_ k_ => XS.iloadN X.here hx rfl (hb hby d8_178) rfl k_) ?_
      show Gl p e below s _ _ _ (T.setTop (mkF m 179 #[.val (.ref t), .val (.ref k), .val v, .val (.int (1 : Int32)), .val (.ref r), .val (.int (0 : Int32)), .val (.ref r), .val .null, .val (.ref k), .val v1] [(.int (1 : Int32))]))
      refine Gl.by (fun t_ k_ => XS.ifYes X.here hx rfl (pc0 := 179) (pc' := 187) rfl (hb hby d8_179) rfl ((if0 _ _).trans (feq (by decide : ¬ (1 : Int32) = 0)).2) (by decide) (by decide) k_) ?_
      show Gl p e below s _ _ _ (T.setTop (mkF m 187 #[.val (.ref t), .val (.ref k), .val v, .val (.int (1 : Int32)), .val (.ref r), .val (.int (0 : Int32)), .val (.ref r), .val .null, .val (.ref k), .val v1] []))
      refine Gl.by (fun t_ k_ => XS.aload X.here hx rfl (hb hby d8_187) rfl rfl k_) ?_
      show Gl p e below s _ _ _ (T.setTop (mkF m 189 #[.val (.ref t), .val (.ref k), .val v, .val (.int (1 : Int32)), .val (.ref r), .val (.int (0 : Int32)), .val (.ref r), .val .null, .val (.ref k), .val v1] [(.ref r)]))
      refine Gl.by (fun t_ k_ => XS.aloadN X.here hx rfl (hb hby d8_189) rfl hv k_) ?_
      show Gl p e below s _ _ _ (T.setTop (mkF m 190 #[.val (.ref t), .val (.ref k), .val v, .val (.int (1 : Int32)), .val (.ref r), .val (.int (0 : Int32)), .val (.ref r), .val .null, .val (.ref k), .val v1] [v, (.ref r)]))
      obtain ⟨T, h2, X, eT, W2, st⟩ := putF X hx hZ hown (host := "") (Or.inl (hw _ (List.mem_of_getElem? (i := 113) rfl))) Via.refl eT hr.2.2.1 hr.1 (Or.inl (hw _ (List.mem_of_getElem? (i := 105) rfl))) (hw _ (List.mem_of_getElem? (i := 93) rfl)) (ty := (.object "java/lang/Object")) (by decide) narR (fitsR hv) (g := (mkF m 190 #[.val (.ref t), .val (.ref k), .val v, .val (.int (1 : Int32)), .val (.ref r), .val (.int (0 : Int32)), .val (.ref r), .val .null, .val (.ref k), .val v1] [v, (.ref r)])) rfl rfl (hb hby d8_190)
      have F2_value : Fld Z h2 r "java/util/TreeMap$Entry" "value" "Ljava/lang/Object;" v := Fld.same W2 hr.2.2.1
      have sz2 := (Keep.of_wr W2).1
      have N := Fr.snoc X N (by omega)
      refine Gl.by st ?_
      show Gl p e below s _ _ _ (T.setTop (mkF m 193 #[.val (.ref t), .val (.ref k), .val v, .val (.int (1 : Int32)), .val (.ref r), .val (.int (0 : Int32)), .val (.ref r), .val .null, .val (.ref k), .val v1] []))
      refine Gl.by (fun t_ k_ => XS.aload X.here hx rfl (hb hby d8_193) rfl hv1 k_) ?_
      show Gl p e below s _ _ _ (T.setTop (mkF m 195 #[.val (.ref t), .val (.ref k), .val v, .val (.int (1 : Int32)), .val (.ref r), .val (.int (0 : Int32)), .val (.ref r), .val .null, .val (.ref k), .val v1] [v1]))
      refine Gl.retA X hx hlk hret rfl hv1 (hb hby d8_195) (by decide) (by decide) ?_
      rw [eT]
      exact ⟨⟨_, rfl, hv1⟩, N, ((Keep.refl h0 [t, r]).wr W2 (Or.inl (by simp))), Or.inl ⟨c2, mc, ⟨(ht.1.wr W2), (ht.2.1.other W2 (Or.inl (ne_exa ht.1 hr.1 (by decide)))), (ht.2.2.1.other W2 (Or.inl (ne_exa ht.1 hr.1 (by decide)))), (ht.2.2.2.1.other W2 (Or.inl (ne_exa ht.1 hr.1 (by decide)))), (ht.2.2.2.2.other W2 (Or.inl (ne_exa ht.1 hr.1 (by decide))))⟩, ⟨(hr.1.wr W2), (hr.2.1.other W2 (Or.inr (slot_ne (C := "java/util/TreeMap$Entry") (Or.inl (hw _ (List.mem_of_getElem? (i := 103) rfl))) (Or.inl (hw _ (List.mem_of_getElem? (i := 105) rfl))) (by decide) (t := (.object "java/lang/Object")) (t' := (.object "java/lang/Object")) (by decide) (by decide)))), F2_value, (hr.2.2.2.1.other W2 (Or.inr (slot_ne (C := "java/util/TreeMap$Entry") (Or.inl (hw _ (List.mem_of_getElem? (i := 201) rfl))) (Or.inl (hw _ (List.mem_of_getElem? (i := 105) rfl))) (by decide) (t := (.object "java/util/TreeMap$Entry")) (t' := (.object "java/lang/Object")) (by decide) (by decide)))), (hr.2.2.2.2.1.other W2 (Or.inr (slot_ne (C := "java/util/TreeMap$Entry") (Or.inl (hw _ (List.mem_of_getElem? (i := 176) rfl))) (Or.inl (hw _ (List.mem_of_getElem? (i := 105) rfl))) (by decide) (t := (.object "java/util/TreeMap$Entry")) (t' := (.object "java/lang/Object")) (by decide) (by decide)))), (hr.2.2.2.2.2.1.other W2 (Or.inr (slot_ne (C := "java/util/TreeMap$Entry") (Or.inl (hw _ (List.mem_of_getElem? (i := 107) rfl))) (Or.inl (hw _ (List.mem_of_getElem? (i := 105) rfl))) (by decide) (t := (.object "java/util/TreeMap$Entry")) (t' := (.object "java/lang/Object")) (by decide) (by decide)))), (hr.2.2.2.2.2.2.1.other W2 (Or.inr (slot_ne (C := "java/util/TreeMap$Entry") (Or.inl (hw _ (List.mem_of_getElem? (i := 101) rfl))) (Or.inl (hw _ (List.mem_of_getElem? (i := 105) rfl))) (by decide) (t := .boolean) (t' := (.object "java/lang/Object")) (by decide) (by decide)))), ⟨(hr.2.2.2.2.2.2.2.1.1.wr W2), (hr.2.2.2.2.2.2.2.1.2.other W2 (Or.inl (ne_exa hr.2.2.2.2.2.2.2.1.1 hr.1 (by decide))))⟩, hv⟩⟩⟩
    · have cne := c2
      rw [(show cmp i i1 = 1 from (if_neg c1).trans (if_neg c2))]
      show Gl p e below s _ _ _ (T.setTop (mkF m 139 #[.val (.ref t), .val (.ref k), .val v, .val (.int (1 : Int32)), .val (.ref r), .unset, .val (.ref r), .val .null, .val (.ref k), .unset] [(.int (1 : Int32))]))
      refine Gl.by (fun t_ k_ => XS.istore X.here hx rfl (hb hby d8_139) rfl (l' := #[.val (.ref t), .val (.ref k), .val v, .val (.int (1 : Int32)), .val (.ref r), .val (.int (1 : Int32)), .val (.ref r), .val .null, .val (.ref k), .unset]) rfl k_) ?_
      show Gl p e below s _ _ _ (T.setTop (mkF m 141 #[.val (.ref t), .val (.ref k), .val v, .val (.int (1 : Int32)), .val (.ref r), .val (.int (1 : Int32)), .val (.ref r), .val .null, .val (.ref k), .unset] []))
      refine Gl.by (fun t_ k_ => XS.iload X.here hx rfl (hb hby d8_141) rfl k_) ?_
      show Gl p e below s _ _ _ (T.setTop (mkF m 143 #[.val (.ref t), .val (.ref k), .val v, .val (.int (1 : Int32)), .val (.ref r), .val (.int (1 : Int32)), .val (.ref r), .val .null, .val (.ref k), .unset] [(.int (1 : Int32))]))
      refine Gl.by (fun t_ k_ => XS.ifYes X.here hx rfl (pc0 := 143) (pc' := 156) rfl (hb hby d8_143) rfl ((if0 _ _).trans (flt (by decide : ¬ (1 : Int32) < 0)).2.1) (by decide) (by decide) k_) ?_
      show Gl p e below s _ _ _ (T.setTop (mkF m 156 #[.val (.ref t), .val (.ref k), .val v, .val (.int (1 : Int32)), .val (.ref r), .val (.int (1 : Int32)), .val (.ref r), .val .null, .val (.ref k), .unset] []))
      refine Gl.by (fun t_ k_ => XS.iload X.here hx rfl (hb hby d8_156) rfl k_) ?_
      show Gl p e below s _ _ _ (T.setTop (mkF m 158 #[.val (.ref t), .val (.ref k), .val v, .val (.int (1 : Int32)), .val (.ref r), .val (.int (1 : Int32)), .val (.ref r), .val .null, .val (.ref k), .unset] [(.int (1 : Int32))]))
      refine Gl.by (fun t_ k_ => XS.ifNo X.here hx rfl (hb hby d8_158) rfl ((if0 _ _).trans (tlt (by decide : (0 : Int32) < 1)).2.2.2) k_) ?_
      show Gl p e below s _ _ _ (T.setTop (mkF m 161 #[.val (.ref t), .val (.ref k), .val v, .val (.int (1 : Int32)), .val (.ref r), .val (.int (1 : Int32)), .val (.ref r), .val .null, .val (.ref k), .unset] []))
      refine Gl.by (fun t_ k_ => XS.aload X.here hx rfl (hb hby d8_161) rfl rfl k_) ?_
      show Gl p e below s _ _ _ (T.setTop (mkF m 163 #[.val (.ref t), .val (.ref k), .val v, .val (.int (1 : Int32)), .val (.ref r), .val (.int (1 : Int32)), .val (.ref r), .val .null, .val (.ref k), .unset] [(.ref r)]))
      obtain ⟨T, X, eT, st⟩ := getF X hx hZ hown (host := "") (Or.inl (hw _ (List.mem_of_getElem? (i := 175) rfl))) Via.refl eT hr.2.2.2.2.1 (g := (mkF m 163 #[.val (.ref t), .val (.ref k), .val v, .val (.int (1 : Int32)), .val (.ref r), .val (.int (1 : Int32)), .val (.ref r), .val .null, .val (.ref k), .unset] [(.ref r)])) rfl rfl (hb hby d8_163)
      refine Gl.by st ?_
      show Gl p e below s _ _ _ (T.setTop (mkF m 166 #[.val (.ref t), .val (.ref k), .val v, .val (.int (1 : Int32)), .val (.ref r), .val (.int (1 : Int32)), .val (.ref r), .val .null, .val (.ref k), .unset] [.null]))
      refine Gl.by (fun t_ k_ => XS.astore X.here hx rfl (hb hby d8_166) rfl rfl (l' := #[.val (.ref t), .val (.ref k), .val v, .val (.int (1 : Int32)), .val .null, .val (.int (1 : Int32)), .val (.ref r), .val .null, .val (.ref k), .unset]) rfl k_) ?_
      show Gl p e below s _ _ _ (T.setTop (mkF m 168 #[.val (.ref t), .val (.ref k), .val v, .val (.int (1 : Int32)), .val .null, .val (.int (1 : Int32)), .val (.ref r), .val .null, .val (.ref k), .unset] []))
      refine Gl.by (fun t_ k_ => XS.goto X.here hx rfl (pc0 := 168) (pc' := 196) rfl (hb hby d8_168) (by decide) (by decide) k_) ?_
      show Gl p e below s _ _ _ (T.setTop (mkF m 196 #[.val (.ref t), .val (.ref k), .val v, .val (.int (1 : Int32)), .val .null, .val (.int (1 : Int32)), .val (.ref r), .val .null, .val (.ref k), .unset] []))
      refine Gl.by (fun t_ k_ => XS.aload X.here hx rfl (hb hby d8_196) rfl rfl k_) ?_
      show Gl p e below s _ _ _ (T.setTop (mkF m 198 #[.val (.ref t), .val (.ref k), .val v, .val (.int (1 : Int32)), .val .null, .val (.int (1 : Int32)), .val (.ref r), .val .null, .val (.ref k), .unset] [.null]))
      refine Gl.by (fun t_ k_ => XS.ifnonnullNo X.here hx rfl (hb hby d8_198) rfl k_) ?_
      show Gl p e below s _ _ _ (T.setTop (mkF m 201 #[.val (.ref t), .val (.ref k), .val v, .val (.int (1 : Int32)), .val .null, .val (.int (1 : Int32)), .val (.ref r), .val .null, .val (.ref k), .unset] []))
      refine Gl.by (fun t_ k_ => XS.aloadN X.here hx rfl (hb hby d8_201) rfl rfl k_) ?_
      show Gl p e below s _ _ _ (T.setTop (mkF m 202 #[.val (.ref t), .val (.ref k), .val v, .val (.int (1 : Int32)), .val .null, .val (.int (1 : Int32)), .val (.ref r), .val .null, .val (.ref k), .unset] [(.ref t)]))
      refine Gl.by (fun t_ k_ => XS.aloadN X.here hx rfl (hb hby d8_202) rfl rfl k_) ?_
      show Gl p e below s _ _ _ (T.setTop (mkF m 203 #[.val (.ref t), .val (.ref k), .val v, .val (.int (1 : Int32)), .val .null, .val (.int (1 : Int32)), .val (.ref r), .val .null, .val (.ref k), .unset] [(.ref k), (.ref t)]))
      refine Gl.by (fun t_ k_ => XS.aloadN X.here hx rfl (hb hby d8_203) rfl hv k_) ?_
      show Gl p e below s _ _ _ (T.setTop (mkF m 204 #[.val (.ref t), .val (.ref k), .val v, .val (.int (1 : Int32)), .val .null, .val (.int (1 : Int32)), .val (.ref r), .val .null, .val (.ref k), .unset] [v, (.ref k), (.ref t)]))
      refine Gl.by (fun t_ k_ => XS.aload X.here hx rfl (hb hby d8_204) rfl rfl k_) ?_
      show Gl p e below s _ _ _ (T.setTop (mkF m 206 #[.val (.ref t), .val (.ref k), .val v, .val (.int (1 : Int32)), .val .null, .val (.int (1 : Int32)), .val (.ref r), .val .null, .val (.ref k), .unset] [(.ref r), v, (.ref k), (.ref t)]))
      refine Gl.by (fun t_ k_ => XS.iload X.here hx rfl (hb hby d8_206) rfl k_) ?_
      show Gl p e below s _ _ _ (T.setTop (mkF m 208 #[.val (.ref t), .val (.ref k), .val v, .val (.int (1 : Int32)), .val .null, .val (.int (1 : Int32)), .val (.ref r), .val .null, .val (.ref k), .unset] [(.int (1 : Int32)), (.ref r), v, (.ref k), (.ref t)]))
      refine Gl.by (fun t_ k_ => XS.ifYes X.here hx rfl (pc0 := 208) (pc' := 215) rfl (hb hby d8_208) rfl ((if0 _ _).trans (flt (by decide : ¬ (1 : Int32) < 0)).2.1) (by decide) (by decide) k_) ?_
      show Gl p e below s _ _ _ (T.setTop (mkF m 215 #[.val (.ref t), .val (.ref k), .val v, .val (.int (1 : Int32)), .val .null, .val (.int (1 : Int32)), .val (.ref r), .val .null, .val (.ref k), .unset] [(.ref r), v, (.ref k), (.ref t)]))
      refine Gl.by (fun t_ k_ => XS.iconst X.here hx rfl (hb hby d8_215) k_) ?_
      show Gl p e below s _ _ _ (T.setTop (mkF m 216 #[.val (.ref t), .val (.ref k), .val v, .val (.int (1 : Int32)), .val .null, .val (.int (1 : Int32)), .val (.ref r), .val .null, .val (.ref k), .unset] [(.int (0 : Int32)), (.ref r), v, (.ref k), (.ref t)]))
      refine Gl.priv X hx hZ hown (hw _ (List.mem_of_getElem? (i := 177) rfl)) (hw _ (List.mem_of_getElem? (i := 178) rfl)) (hw _ (List.mem_of_getElem? (i := 180) rfl)) (hw _ (List.mem_of_getElem? (i := 179) rfl)) (hw _ (List.mem_of_getElem? (i := 181) rfl)) (by decide) ht.1 (W := 0) (backC (own_addR l Z a0 hw t k r k1 i i1 mc v v1 h0 n0 Z0 Zt Zr ht hr hk hv) hZ (hw _ (List.mem_of_getElem? (i := 181) rfl)) (hw _ (List.mem_of_getElem? (i := 19) rfl)) (by decide) (by decide)) eT (hb hby d8_216) (by rw [hml]; rfl) [(.ref k), v, (.ref r), (.int (0 : Int32))] [] (lenOf pd_10 rfl) rfl rfl (Nat.le_of_eq rfl) (by decide) (by decide) ?_
      intro v T L X hq
      obtain ⟨rfl, NQ, K3, en, ge, mc2, F3, G3, H3⟩ := hq
      have N := Fr.app N NQ
      obtain ⟨h3, eT⟩ : ∃ z, T.heap = z := ⟨_, rfl⟩
      rw [eT] at K3 F3 G3 H3
      have sz3 := K3.1
      show Gl p e below s _ _ _ (T.setTop (mkF m 219 #[.val (.ref t), .val (.ref k), .val v, .val (.int (1 : Int32)), .val .null, .val (.int (1 : Int32)), .val (.ref r), .val .null, .val (.ref k), .unset] []))
      refine Gl.by (fun t_ k_ => XS.aconstNull X.here hx rfl (hb hby d8_219) k_) ?_
      show Gl p e below s _ _ _ (T.setTop (mkF m 220 #[.val (.ref t), .val (.ref k), .val v, .val (.int (1 : Int32)), .val .null, .val (.int (1 : Int32)), .val (.ref r), .val .null, .val (.ref k), .unset] [.null]))
      refine Gl.retA X hx hlk hret rfl rfl (hb hby d8_220) (by decide) (by decide) ?_
      rw [eT]
      refine ⟨⟨_, rfl, rfl⟩, N, K3, Or.inr ⟨cne, en, ge, cne, mc2, F3, ?_, H3⟩⟩
      rw [if_neg c1, if_neg c1]
      exact G3
set_option maxRecDepth 65536 in
set_option maxHeartbeats 40000000 in
theorem own_put2e (l : Launch) (Z : State) (a0 : Array Value) (hw : ∀ d ∈ tables_1, d.before a0 Z = true) (t k : Nat) (i mc : Int32) (v : Value) (h0 : Heap) (n0 : Nat) (Z0 : n0 ≤ h0.size) (Zt : n0 ≤ t) (ht : Tmo Z h0 t .null 0 mc) (hk : IntO Z h0 k i) (hv : v.isRef = true) :
    Ctr l Z (⟨"java/util/TreeMap", "put", "(Ljava/lang/Object;Ljava/lang/Object;)Ljava/lang/Object;"⟩ : MethodName) jdk_2729_method_21_code 3 (some (.object "java/lang/Object")) [] own_rP2 #[(.ref t), (.ref k), v] h0 (fun w h L => (∃ u, w = some u ∧ u.isRef = true) ∧ Fr n0 L ∧ Keep h0 h [t] ∧ ∃ r : Nat, h0.size ≤ r ∧ Map1 Z h t r k i v) := by
  refine Ctr.intro pn_3 #[.val (.ref t), .val (.ref k), .val v] (fun m => by rcases ref_cases hv with rfl | ⟨_, rfl⟩ <;> rfl) ?_
  intro p e s m below meth c T hx hby hml hown hnm hret hlk hZ X eT
  have hown : s.vm.findClass "java/util/TreeMap" = some m.cls := hown
  have N := Fr.nil n0
  show Gl p e below s _ _ _ (T.setTop (mkF m 0 #[.val (.ref t), .val (.ref k), .val v] []))
  refine Gl.by (fun t_ k_ => XS.aloadN X.here hx rfl (hb hby d7_0) rfl rfl k_) ?_
  show Gl p e below s _ _ _ (T.setTop (mkF m 1 #[.val (.ref t), .val (.ref k), .val v] [(.ref t)]))
  refine Gl.by (fun t_ k_ => XS.aloadN X.here hx rfl (hb hby d7_1) rfl rfl k_) ?_
  show Gl p e below s _ _ _ (T.setTop (mkF m 2 #[.val (.ref t), .val (.ref k), .val v] [(.ref k), (.ref t)]))
  refine Gl.by (fun t_ k_ => XS.aloadN X.here hx rfl (hb hby d7_2) rfl hv k_) ?_
  show Gl p e below s _ _ _ (T.setTop (mkF m 3 #[.val (.ref t), .val (.ref k), .val v] [v, (.ref k), (.ref t)]))
  refine Gl.by (fun t_ k_ => XS.iconst X.here hx rfl (hb hby d7_3) k_) ?_
  show Gl p e below s _ _ _ (T.setTop (mkF m 4 #[.val (.ref t), .val (.ref k), .val v] [(.int (1 : Int32)), v, (.ref k), (.ref t)]))
  refine Gl.priv X hx hZ hown (hw _ (List.mem_of_getElem? (i := 53) rfl)) (hw _ (List.mem_of_getElem? (i := 54) rfl)) (hw _ (List.mem_of_getElem? (i := 56) rfl)) (hw _ (List.mem_of_getElem? (i := 55) rfl)) (hw _ (List.mem_of_getElem? (i := 57) rfl)) (by decide) ht.1 (W := 0) (backC (own_put3e l Z a0 hw t k i mc v h0 n0 Z0 Zt ht hk hv) hZ (hw _ (List.mem_of_getElem? (i := 57) rfl)) (hw _ (List.mem_of_getElem? (i := 19) rfl)) (by decide) (by decide)) eT (hb hby d7_4) (by rw [hml]; rfl) [(.ref k), v, (.int (1 : Int32))] [] (lenOf pd_11 rfl) rfl rfl (Nat.le_of_eq rfl) (by decide) (by decide) ?_
  intro v T L X hq
  obtain ⟨⟨u, rfl, hu⟩, NQ, K1, F1⟩ := hq
  have N := Fr.app N NQ
  obtain ⟨h1, eT⟩ : ∃ z, T.heap = z := ⟨_, rfl⟩
  rw [eT] at K1 F1
  have sz1 := K1.1
  show Gl p e below s _ _ _ (T.setTop (mkF m 7 #[.val (.ref t), .val (.ref k), .val v] [u]))
  refine Gl.retA X hx hlk hret rfl hu (hb hby d7_7) (by decide) (by decide) ?_
  rw [eT]
  exact ⟨⟨_, rfl, hu⟩, N, K1, F1⟩
set_option maxRecDepth 65536 in
set_option maxHeartbeats 40000000 in
theorem own_put2o (l : Launch) (Z : State) (a0 : Array Value) (hw : ∀ d ∈ tables_1, d.before a0 Z = true) (t r k k1 : Nat) (i i1 : Int32) (v v1 : Value) (h0 : Heap) (n0 : Nat) (Z0 : n0 ≤ h0.size) (Zt : n0 ≤ t) (Zr : n0 ≤ r) (hm : Map1 Z h0 t r k1 i1 v1) (hk : IntO Z h0 k i) (hv : v.isRef = true) :
    Ctr l Z (⟨"java/util/TreeMap", "put", "(Ljava/lang/Object;Ljava/lang/Object;)Ljava/lang/Object;"⟩ : MethodName) jdk_2729_method_21_code 3 (some (.object "java/lang/Object")) [] own_rP2 #[(.ref t), (.ref k), v] h0 (fun w h L => (∃ u, w = some u ∧ u.isRef = true) ∧ Fr n0 L ∧ Keep h0 h [t, r] ∧ ((i = i1 ∧ Map1 Z h t r k1 i1 v) ∨ (¬ i = i1 ∧ ∃ en : Nat, h0.size ≤ en ∧ Map2 Z h t r k1 i1 v1 en k i v))) := by
  refine Ctr.intro pn_3 #[.val (.ref t), .val (.ref k), .val v] (fun m => by rcases ref_cases hv with rfl | ⟨_, rfl⟩ <;> rfl) ?_
  intro p e s m below meth c T hx hby hml hown hnm hret hlk hZ X eT
  have hown : s.vm.findClass "java/util/TreeMap" = some m.cls := hown
  have N := Fr.nil n0
  show Gl p e below s _ _ _ (T.setTop (mkF m 0 #[.val (.ref t), .val (.ref k), .val v] []))
  refine Gl.by (fun t_ k_ => XS.aloadN X.here hx rfl (hb hby d7_0) rfl rfl k_) ?_
  show Gl p e below s _ _ _ (T.setTop (mkF m 1 #[.val (.ref t), .val (.ref k), .val v] [(.ref t)]))
  refine Gl.by (fun t_ k_ => XS.aloadN X.here hx rfl (hb hby d7_1) rfl rfl k_) ?_
  show Gl p e below s _ _ _ (T.setTop (mkF m 2 #[.val (.ref t), .val (.ref k), .val v] [(.ref k), (.ref t)]))
  refine Gl.by (fun t_ k_ => XS.aloadN X.here hx rfl (hb hby d7_2) rfl hv k_) ?_
  show Gl p e below s _ _ _ (T.setTop (mkF m 3 #[.val (.ref t), .val (.ref k), .val v] [v, (.ref k), (.ref t)]))
  refine Gl.by (fun t_ k_ => XS.iconst X.here hx rfl (hb hby d7_3) k_) ?_
  show Gl p e below s _ _ _ (T.setTop (mkF m 4 #[.val (.ref t), .val (.ref k), .val v] [(.int (1 : Int32)), v, (.ref k), (.ref t)]))
  refine Gl.priv X hx hZ hown (hw _ (List.mem_of_getElem? (i := 53) rfl)) (hw _ (List.mem_of_getElem? (i := 54) rfl)) (hw _ (List.mem_of_getElem? (i := 56) rfl)) (hw _ (List.mem_of_getElem? (i := 55) rfl)) (hw _ (List.mem_of_getElem? (i := 57) rfl)) (by decide) hm.choose_spec.1.1 (W := 0) (backC (own_put3o l Z a0 hw t r k k1 i i1 v v1 h0 n0 Z0 Zt Zr hm hk hv) hZ (hw _ (List.mem_of_getElem? (i := 57) rfl)) (hw _ (List.mem_of_getElem? (i := 19) rfl)) (by decide) (by decide)) eT (hb hby d7_4) (by rw [hml]; rfl) [(.ref k), v, (.int (1 : Int32))] [] (lenOf pd_11 rfl) rfl rfl (Nat.le_of_eq rfl) (by decide) (by decide) ?_
  intro v T L X hq
  obtain ⟨⟨u, rfl, hu⟩, NQ, K1, F1⟩ := hq
  have N := Fr.app N NQ
  obtain ⟨h1, eT⟩ : ∃ z, T.heap = z := ⟨_, rfl⟩
  rw [eT] at K1 F1
  have sz1 := K1.1
  show Gl p e below s _ _ _ (T.setTop (mkF m 7 #[.val (.ref t), .val (.ref k), .val v] [u]))
  refine Gl.retA X hx hlk hret rfl hu (hb hby d7_7) (by decide) (by decide) ?_
  rw [eT]
  exact ⟨⟨_, rfl, hu⟩, N, K1, F1⟩
set_option maxRecDepth 65536 in
set_option maxHeartbeats 40000000 in
theorem own_addie (l : Launch) (Z : State) (a0 : Array Value) (hw : ∀ d ∈ tables_1, d.before a0 Z = true) (cv t : Nat) (i mc : Int32) (v : Value) (h0 : Heap) (n0 : Nat) (Z0 : n0 ≤ h0.size) (Zt : n0 ≤ t) (C : ICok Z) (O : Old Z n0 h0) (h_i : ¬ i < (0 : Int32)) (Fv : Fld Z h0 cv "com/example/hookwright/hookwright/ConstructorArgumentValues" "values" "Ljava/util/Map;" (.ref t)) (hv : v.isRef = true) (ht : Tmo Z h0 t .null 0 mc) :
    Ctr l Z (⟨"com/example/hookwright/hookwright/ConstructorArgumentValues", "addIndexedArgumentValue", "(ILjava/lang/Object;)V"⟩ : MethodName) prog_22_method_2_code 3 none [] own_rAI #[(.ref cv), (.int i), v] h0 (fun w h L => w = none ∧ Fr n0 L ∧ Keep h0 h [t] ∧ ∃ (k r : Nat), h0.size ≤ r ∧ Map1 Z h t r k i v) := by
  refine Ctr.intro pn_5 #[.val (.ref cv), .val (.int i), .val v] (fun m => by rcases ref_cases hv with rfl | ⟨_, rfl⟩ <;> rfl) ?_
  intro p e s m below meth c T hx hby hml hown hnm hret hlk hZ X eT
  have hown : s.vm.findClass "com/example/hookwright/hookwright/ConstructorArgumentValues" = some m.cls := hown
  have N := Fr.nil n0
  show Gl p e below s _ _ _ (T.setTop (mkF m 0 #[.val (.ref cv), .val (.int i), .val v] []))
  refine Gl.by (fun t_ k_ => XS.iloadN X.here hx rfl (hb hby d6_0) rfl k_) ?_
  show Gl p e below s _ _ _ (T.setTop (mkF m 1 #[.val (.ref cv), .val (.int i), .val v] [(.int i)]))
  refine Gl.by (fun t_ k_ => XS.ifYes X.here hx rfl (pc0 := 1) (pc' := 18) rfl (hb hby d6_1) rfl ((if0 _ _).trans (flt h_i).2.1) (by decide) (by decide) k_) ?_
  show Gl p e below s _ _ _ (T.setTop (mkF m 18 #[.val (.ref cv), .val (.int i), .val v] []))
  refine Gl.by (fun t_ k_ => XS.aloadN X.here hx rfl (hb hby d6_18) rfl rfl k_) ?_
  show Gl p e below s _ _ _ (T.setTop (mkF m 19 #[.val (.ref cv), .val (.int i), .val v] [(.ref cv)]))
  obtain ⟨T, X, eT, st⟩ := getF X hx hZ hown (host := "") (Or.inl (hw _ (List.mem_of_getElem? (i := 36) rfl))) Via.refl eT Fv (g := (mkF m 19 #[.val (.ref cv), .val (.int i), .val v] [(.ref cv)])) rfl rfl (hb hby d6_19)
  refine Gl.by st ?_
  show Gl p e below s _ _ _ (T.setTop (mkF m 22 #[.val (.ref cv), .val (.int i), .val v] [(.ref t)]))
  refine Gl.by (fun t_ k_ => XS.iloadN X.here hx rfl (hb hby d6_22) rfl k_) ?_
  show Gl p e below s _ _ _ (T.setTop (mkF m 23 #[.val (.ref cv), .val (.int i), .val v] [(.int i), (.ref t)]))
  refine Gl.stat X hx hZ hown (hw _ (List.mem_of_getElem? (i := 43) rfl)) (hw _ (List.mem_of_getElem? (i := 2) rfl)) (hw _ (List.mem_of_getElem? (i := 3) rfl)) (hw _ (List.mem_of_getElem? (i := 4) rfl)) (by decide) (W := 1) (backC (own_vof l Z a0 hw i h0 n0 Z0 C O) hZ (hw _ (List.mem_of_getElem? (i := 4) rfl)) (hw _ (List.mem_of_getElem? (i := 3) rfl)) (by decide) (by decide)) eT (hb hby d6_23) (by rw [hml]; rfl) [(.int i)] [(.ref t)] (lenOf pd_12 rfl) rfl rfl (Nat.le_of_eq rfl) (by decide) (by decide) ?_
  intro v T L X hq
  obtain ⟨NQ, K1, k, rfl, F1⟩ := hq
  have N := Fr.app N NQ
  obtain ⟨h1, eT⟩ : ∃ z, T.heap = z := ⟨_, rfl⟩
  rw [eT] at K1 F1
  have sz1 := K1.1
  show Gl p e below s _ _ _ (T.setTop (mkF m 26 #[.val (.ref cv), .val (.int i), .val v] [(.ref k), (.ref t)]))
  refine Gl.by (fun t_ k_ => XS.aloadN X.here hx rfl (hb hby d6_26) rfl hv k_) ?_
  show Gl p e below s _ _ _ (T.setTop (mkF m 27 #[.val (.ref cv), .val (.int i), .val v] [v, (.ref k), (.ref t)]))
  refine Gl.face X hx hZ hown (hw _ (List.mem_of_getElem? (i := 44) rfl)) (hw _ (List.mem_of_getElem? (i := 45) rfl)) (mvT hZ (hw _ (List.mem_of_getElem? (i := 46) rfl))) (hw _ (List.mem_of_getElem? (i := 47) rfl)) (hw _ (List.mem_of_getElem? (i := 48) rfl)) (hw _ (List.mem_of_getElem? (i := 49) rfl)) (hw _ (List.mem_of_getElem? (i := 50) rfl)) (hw _ (List.mem_of_getElem? (i := 51) rfl)) (by decide) (ht.1.keep K1) (W := 0) (backC (own_put2e l Z a0 hw t k i mc v h1 n0 (by omega) Zt (ht.keep0 K1) F1 hv) hZ (hw _ (List.mem_of_getElem? (i := 52) rfl)) (hw _ (List.mem_of_getElem? (i := 19) rfl)) (by decide) (by decide)) eT (hb hby d6_27) (by rw [hml]; rfl) [(.ref k), v] [] (lenOf pd_13 rfl) rfl rfl (Nat.le_of_eq rfl) (by decide) (by decide) ?_
  intro v T L X hq
  obtain ⟨⟨u, rfl, hu⟩, NQ, K2, F2⟩ := hq
  have N := Fr.app N NQ
  obtain ⟨h2, eT⟩ : ∃ z, T.heap = z := ⟨_, rfl⟩
  rw [eT] at K2 F2
  have sz2 := K2.1
  show Gl p e below s _ _ _ (T.setTop (mkF m 32 #[.val (.ref cv), .val (.int i), .val v] [u]))
  refine Gl.by (fun t_ k_ => XS.pop X.here hx rfl (hb hby d6_32) rfl (isref_cat hu) k_) ?_
  show Gl p e below s _ _ _ (T.setTop (mkF m 33 #[.val (.ref cv), .val (.int i), .val v] []))
  refine Gl.retV X hx hlk hret (hb hby d6_33) (by decide) (by decide) ?_
  rw [eT]
  obtain ⟨r, gr, F2⟩ := F2
  exact ⟨rfl, N, (((Keep.refl h0 [t]).trans K1 all0).trans K2 (allS (Or.inl (by simp)) all0)), k, r, by omega, F2⟩
set_option maxRecDepth 65536 in
set_option maxHeartbeats 40000000 in
theorem own_addio (l : Launch) (Z : State) (a0 : Array Value) (hw : ∀ d ∈ tables_1, d.before a0 Z = true) (cv t r k1 : Nat) (i i1 : Int32) (v v1 : Value) (h0 : Heap) (n0 : Nat) (Z0 : n0 ≤ h0.size) (Zt : n0 ≤ t) (C : ICok Z) (O : Old Z n0 h0) (h_i : ¬ i < (0 : Int32)) (Fv : Fld Z h0 cv "com/example/hookwright/hookwright/ConstructorArgumentValues" "values" "Ljava/util/Map;" (.ref t)) (hv : v.isRef = true) (Zr : n0 ≤ r) (hm : Map1 Z h0 t r k1 i1 v1) :
    Ctr l Z (⟨"com/example/hookwright/hookwright/ConstructorArgumentValues", "addIndexedArgumentValue", "(ILjava/lang/Object;)V"⟩ : MethodName) prog_22_method_2_code 3 none [] own_rAI #[(.ref cv), (.int i), v] h0 (fun w h L => w = none ∧ Fr n0 L ∧ Keep h0 h [t, r] ∧ ((i = i1 ∧ Map1 Z h t r k1 i1 v) ∨ (¬ i = i1 ∧ ∃ (k en : Nat), h0.size ≤ en ∧ Map2 Z h t r k1 i1 v1 en k i v))) := by
  refine Ctr.intro pn_5 #[.val (.ref cv), .val (.int i), .val v] (fun m => by rcases ref_cases hv with rfl | ⟨_, rfl⟩ <;> rfl) ?_
  intro p e s m below meth c T hx hby hml hown hnm hret hlk hZ X eT
  have hown : s.vm.findClass "com/example/hookwright/hookwright/ConstructorArgumentValues" = some m.cls := hown
  have N := Fr.nil n0
  show Gl p e below s _ _ _ (T.setTop (mkF m 0 #[.val (.ref cv), .val (.int i), .val v] []))
  refine Gl.by (fun t_ k_ => XS.iloadN X.here hx rfl (hb hby d6_0) rfl k_) ?_
  show Gl p e below s _ _ _ (T.setTop (mkF m 1 #[.val (.ref cv), .val (.int i), .val v] [(.int i)]))
  refine Gl.by (fun t_ k_ => XS.ifYes X.here hx rfl (pc0 := 1) (pc' := 18) rfl (hb hby d6_1) rfl ((if0 _ _).trans (flt h_i).2.1) (by decide) (by decide) k_) ?_
  show Gl p e below s _ _ _ (T.setTop (mkF m 18 #[.val (.ref cv), .val (.int i), .val v] []))
  refine Gl.by (fun t_ k_ => XS.aloadN X.here hx rfl (hb hby d6_18) rfl rfl k_) ?_
  show Gl p e below s _ _ _ (T.setTop (mkF m 19 #[.val (.ref cv), .val (.int i), .val v] [(.ref cv)]))
  obtain ⟨T, X, eT, st⟩ := getF X hx hZ hown (host := "") (Or.inl (hw _ (List.mem_of_getElem? (i := 36) rfl))) Via.refl eT Fv (g := (mkF m 19 #[.val (.ref cv), .val (.int i), .val v] [(.ref cv)])) rfl rfl (hb hby d6_19)
  refine Gl.by st ?_
  show Gl p e below s _ _ _ (T.setTop (mkF m 22 #[.val (.ref cv), .val (.int i), .val v] [(.ref t)]))
  refine Gl.by (fun t_ k_ => XS.iloadN X.here hx rfl (hb hby d6_22) rfl k_) ?_
  show Gl p e below s _ _ _ (T.setTop (mkF m 23 #[.val (.ref cv), .val (.int i), .val v] [(.int i), (.ref t)]))
  refine Gl.stat X hx hZ hown (hw _ (List.mem_of_getElem? (i := 43) rfl)) (hw _ (List.mem_of_getElem? (i := 2) rfl)) (hw _ (List.mem_of_getElem? (i := 3) rfl)) (hw _ (List.mem_of_getElem? (i := 4) rfl)) (by decide) (W := 1) (backC (own_vof l Z a0 hw i h0 n0 Z0 C O) hZ (hw _ (List.mem_of_getElem? (i := 4) rfl)) (hw _ (List.mem_of_getElem? (i := 3) rfl)) (by decide) (by decide)) eT (hb hby d6_23) (by rw [hml]; rfl) [(.int i)] [(.ref t)] (lenOf pd_12 rfl) rfl rfl (Nat.le_of_eq rfl) (by decide) (by decide) ?_
  intro v T L X hq
  obtain ⟨NQ, K1, k, rfl, F1⟩ := hq
  have N := Fr.app N NQ
  obtain ⟨h1, eT⟩ : ∃ z, T.heap = z := ⟨_, rfl⟩
  rw [eT] at K1 F1
  have sz1 := K1.1
  show Gl p e below s _ _ _ (T.setTop (mkF m 26 #[.val (.ref cv), .val (.int i), .val v] [(.ref k), (.ref t)]))
  refine Gl.by (fun t_ k_ => XS.aloadN X.here hx rfl (hb hby d6_26) rfl hv k_) ?_
  show Gl p e below s _ _ _ (T.setTop (mkF m 27 #[.val (.ref cv), .val (.int i), .val v] [v, (.ref k), (.ref t)]))
  refine Gl.face X hx hZ hown (hw _ (List.mem_of_getElem? (i := 44) rfl)) (hw _ (List.mem_of_getElem? (i := 45) rfl)) (mvT hZ (hw _ (List.mem_of_getElem? (i := 46) rfl))) (hw _ (List.mem_of_getElem? (i := 47) rfl)) (hw _ (List.mem_of_getElem? (i := 48) rfl)) (hw _ (List.mem_of_getElem? (i := 49) rfl)) (hw _ (List.mem_of_getElem? (i := 50) rfl)) (hw _ (List.mem_of_getElem? (i := 51) rfl)) (by decide) (hm.choose_spec.1.1.keep K1) (W := 0) (backC (own_put2o l Z a0 hw t r k k1 i i1 v v1 h1 n0 (by omega) Zt Zr (hm.keep0 K1) F1 hv) hZ (hw _ (List.mem_of_getElem? (i := 52) rfl)) (hw _ (List.mem_of_getElem? (i := 19) rfl)) (by decide) (by decide)) eT (hb hby d6_27) (by rw [hml]; rfl) [(.ref k), v] [] (lenOf pd_13 rfl) rfl rfl (Nat.le_of_eq rfl) (by decide) (by decide) ?_
  intro v T L X hq
  obtain ⟨⟨u, rfl, hu⟩, NQ, K2, F2⟩ := hq
  have N := Fr.app N NQ
  obtain ⟨h2, eT⟩ : ∃ z, T.heap = z := ⟨_, rfl⟩
  rw [eT] at K2 F2
  have sz2 := K2.1
  show Gl p e below s _ _ _ (T.setTop (mkF m 32 #[.val (.ref cv), .val (.int i), .val v] [u]))
  refine Gl.by (fun t_ k_ => XS.pop X.here hx rfl (hb hby d6_32) rfl (isref_cat hu) k_) ?_
  show Gl p e below s _ _ _ (T.setTop (mkF m 33 #[.val (.ref cv), .val (.int i), .val v] []))
  refine Gl.retV X hx hlk hret (hb hby d6_33) (by decide) (by decide) ?_
  rw [eT]
  refine ⟨rfl, N, (((Keep.refl h0 [t, r]).trans K1 all0).trans K2 (allS (Or.inl (by simp)) (allS (Or.inl (by simp)) all0))), ?_⟩
  rcases F2 with F2 | ⟨q1, en, ge, F2⟩
  · exact Or.inl F2
  · exact Or.inr ⟨q1, k, en, by omega, F2⟩
abbrev own_rGE : Room := { frames := 3, cells := 0, slots := 0, locals := 39 }
abbrev own_rGT : Room := { frames := 4, cells := 0, slots := 0, locals := 55 }
abbrev own_rGI : Room := { frames := 5, cells := 1, slots := 1, locals := 69 }
abbrev own_rSZ : Room := { frames := 0, cells := 0, slots := 0, locals := 0 }
abbrev own_rSZ1 : Room := { frames := 1, cells := 0, slots := 0, locals := 12 }
abbrev own_rSZ2 : Room := { frames := 2, cells := 0, slots := 0, locals := 24 }
set_option maxRecDepth 65536 in
set_option maxHeartbeats 40000000 in
theorem own_gete (l : Launch) (Z : State) (a0 : Array Value) (hw : ∀ d ∈ tables_1, d.before a0 Z = true) (t k : Nat) (q sz mc : Int32) (n : Nat) (rt res : Value) (h0 : Heap) (n0 : Nat) (ht : Tmo Z h0 t rt sz mc) (hrt : rt.isRef = true) (hk : IntO Z h0 k q) (hs : Sr Z h0 q n rt res) :
    Ctr l Z (⟨"java/util/TreeMap", "getEntry", "(Ljava/lang/Object;)Ljava/util/TreeMap$Entry;"⟩ : MethodName) jdk_2729_method_15_code 5 (some (.object "java/util/TreeMap$Entry")) [] own_rGE #[(.ref t), (.ref k)] h0 (fun v h L => v = some res ∧ Fr n0 L ∧ h = h0) := by
  refine Ctr.intro pn_3 #[.val (.ref t), .val (.ref k), .unset, .unset, .unset] (fun m => by first | rfl | (simp [entryFrame, mkF, argsToLocals, Value.category]; done)) ?_
  intro p e s m below meth c T hx hby hml hown hnm hret hlk hZ X eT
  have hown : s.vm.findClass "java/util/TreeMap" = some m.cls := hown
  have N := Fr.nil n0
  have hsr : ∀ (n : Nat) (pv : Value), Sr Z h0 q n pv res → res.isRef = true := by
    intro n
    induction n with
    | zero => intro pv h; rw [h.2]; rfl
    | succ n ih =>
      intro pv h
      rcases h with h | ⟨x, kx, ix, vx, lf, rg, pa, co, -, -, -, -, h⟩
      · rw [h.2]; rfl
      · rcases h with ⟨-, h⟩ | ⟨-, h⟩ | ⟨-, h⟩
        · rw [h]; rfl
        · exact ih _ h
        · exact ih _ h
  have loop : ∀ (n : Nat) (pv : Value) (o : Slot) (T : State) (locs : List Loc) (_ : Stand p l e own_rGE s m #[(.ref t), (.ref k)] below meth c T locs 0 0) (_ : Fr n0 locs) (_ : T.heap = h0), One o → pv.isRef = true → Sr Z h0 q n pv res → Gl p e below s own_rGE.cells own_rGE.slots (fun v h L => v = some res ∧ Fr n0 L ∧ h = h0) (T.setTop (mkF m 28 #[.val (.ref t), .val (.ref k), .val (.ref k), .val pv, o] [])) := by
    intro n
    induction n with
    | zero =>
        intro pv o T locs X N eT ho hpv h
        obtain ⟨rfl, hre⟩ := h
        show Gl p e below s own_rGE.cells own_rGE.slots (fun v h L => v = some res ∧ Fr n0 L ∧ h = h0) (T.setTop (mkF m 28 #[.val (.ref t), .val (.ref k), .val (.ref k), .val .null, o] []))
        refine Gl.by (fun t_ k_ => XS.aloadN X.here hx rfl (hb hby d22_28) rfl rfl k_) ?_
        show Gl p e below s own_rGE.cells own_rGE.slots (fun v h L => v = some res ∧ Fr n0 L ∧ h = h0) (T.setTop (mkF m 29 #[.val (.ref t), .val (.ref k), .val (.ref k), .val .null, o] [.null]))
        refine Gl.by (fun t_ k_ => XS.ifnullYes X.here hx rfl (pc0 := 29) (pc' := 75) rfl (hb hby d22_29) rfl (by decide) (by decide) k_) ?_
        show Gl p e below s own_rGE.cells own_rGE.slots (fun v h L => v = some res ∧ Fr n0 L ∧ h = h0) (T.setTop (mkF m 75 #[.val (.ref t), .val (.ref k), .val (.ref k), .val .null, o] []))
        refine Gl.by (fun t_ k_ => XS.aconstNull X.here hx rfl (hb hby d22_75) k_) ?_
        show Gl p e below s own_rGE.cells own_rGE.slots (fun v h L => v = some res ∧ Fr n0 L ∧ h = h0) (T.setTop (mkF m 76 #[.val (.ref t), .val (.ref k), .val (.ref k), .val .null, o] [.null]))
        exact Gl.retA X hx hlk hret rfl rfl (hb hby d22_76) (by decide) (by decide) ⟨by rw [hre], N, eT⟩
    | succ n ih =>
        intro pv o T locs X N eT ho hpv h
        rcases h with ⟨rfl, hre⟩ | ⟨x, kx, ix, vx, lf, rg, pa, co, rfl, hn, r1, r2, h⟩
        · show Gl p e below s own_rGE.cells own_rGE.slots (fun v h L => v = some res ∧ Fr n0 L ∧ h = h0) (T.setTop (mkF m 28 #[.val (.ref t), .val (.ref k), .val (.ref k), .val .null, o] []))
          refine Gl.by (fun t_ k_ => XS.aloadN X.here hx rfl (hb hby d22_28) rfl rfl k_) ?_
          show Gl p e below s own_rGE.cells own_rGE.slots (fun v h L => v = some res ∧ Fr n0 L ∧ h = h0) (T.setTop (mkF m 29 #[.val (.ref t), .val (.ref k), .val (.ref k), .val .null, o] [.null]))
          refine Gl.by (fun t_ k_ => XS.ifnullYes X.here hx rfl (pc0 := 29) (pc' := 75) rfl (hb hby d22_29) rfl (by decide) (by decide) k_) ?_
          show Gl p e below s own_rGE.cells own_rGE.slots (fun v h L => v = some res ∧ Fr n0 L ∧ h = h0) (T.setTop (mkF m 75 #[.val (.ref t), .val (.ref k), .val (.ref k), .val .null, o] []))
          refine Gl.by (fun t_ k_ => XS.aconstNull X.here hx rfl (hb hby d22_75) k_) ?_
          show Gl p e below s own_rGE.cells own_rGE.slots (fun v h L => v = some res ∧ Fr n0 L ∧ h = h0) (T.setTop (mkF m 76 #[.val (.ref t), .val (.ref k), .val (.ref k), .val .null, o] [.null]))
          exact Gl.retA X hx hlk hret rfl rfl (hb hby d22_76) (by decide) (by decide) ⟨by rw [hre], N, eT⟩
        · show Gl p e below s own_rGE.cells own_rGE.slots (fun v h L => v = some res ∧ Fr n0 L ∧ h = h0) (T.setTop (mkF m 28 #[.val (.ref t), .val (.ref k), .val (.ref k), .val (.ref x), o] []))
          refine Gl.by (fun t_ k_ => XS.aloadN X.here hx rfl (hb hby d22_28) rfl rfl k_) ?_
          show Gl p e below s own_rGE.cells own_rGE.slots (fun v h L => v = some res ∧ Fr n0 L ∧ h = h0) (T.setTop (mkF m 29 #[.val (.ref t), .val (.ref k), .val (.ref k), .val (.ref x), o] [(.ref x)]))
          refine Gl.by (fun t_ k_ => XS.ifnullNo X.here hx rfl (hb hby d22_29) rfl k_) ?_
          show Gl p e below s own_rGE.cells own_rGE.slots (fun v h L => v = some res ∧ Fr n0 L ∧ h = h0) (T.setTop (mkF m 32 #[.val (.ref t), .val (.ref k), .val (.ref k), .val (.ref x), o] []))
          refine Gl.by (fun t_ k_ => XS.aloadN X.here hx rfl (hb hby d22_32) rfl rfl k_) ?_
          show Gl p e below s own_rGE.cells own_rGE.slots (fun v h L => v = some res ∧ Fr n0 L ∧ h = h0) (T.setTop (mkF m 33 #[.val (.ref t), .val (.ref k), .val (.ref k), .val (.ref x), o] [(.ref k)]))
          refine Gl.by (fun t_ k_ => XS.aloadN X.here hx rfl (hb hby d22_33) rfl rfl k_) ?_
          show Gl p e below s own_rGE.cells own_rGE.slots (fun v h L => v = some res ∧ Fr n0 L ∧ h = h0) (T.setTop (mkF m 34 #[.val (.ref t), .val (.ref k), .val (.ref k), .val (.ref x), o] [(.ref x), (.ref k)]))
          obtain ⟨T, X, eT, st⟩ := getF X hx hZ hown (host := "") (Or.inl (hw _ (List.mem_of_getElem? (i := 112) rfl))) Via.refl eT hn.2.1 (g := (mkF m 34 #[.val (.ref t), .val (.ref k), .val (.ref k), .val (.ref x), o] [(.ref x), (.ref k)])) rfl rfl (hb hby d22_34)
          refine Gl.by st ?_
          show Gl p e below s own_rGE.cells own_rGE.slots (fun v h L => v = some res ∧ Fr n0 L ∧ h = h0) (T.setTop (mkF m 37 #[.val (.ref t), .val (.ref k), .val (.ref k), .val (.ref x), o] [(.ref kx), (.ref k)]))
          refine Gl.face X hx hZ hown (hw _ (List.mem_of_getElem? (i := 72) rfl)) (hw _ (List.mem_of_getElem? (i := 73) rfl)) (mvT hZ (hw _ (List.mem_of_getElem? (i := 74) rfl))) (hw _ (List.mem_of_getElem? (i := 75) rfl)) (hw _ (List.mem_of_getElem? (i := 76) rfl)) (hw _ (List.mem_of_getElem? (i := 77) rfl)) (hw _ (List.mem_of_getElem? (i := 78) rfl)) (hw _ (List.mem_of_getElem? (i := 71) rfl)) (by decide) hk.1 (W := 0) (backC (own_ct2 l Z a0 hw k kx q ix h0 n0 hk hn.2.2.2.2.2.2.2.1) hZ (hw _ (List.mem_of_getElem? (i := 79) rfl)) (hw _ (List.mem_of_getElem? (i := 3) rfl)) (by decide) (by decide)) eT (hb hby d22_37) (by rw [hml]; rfl) [(.ref kx)] [] (lenOf pd_4 rfl) rfl rfl (Nat.le_of_eq rfl) (by decide) (by decide) ?_
          intro v T L X hq
          obtain ⟨rfl, rfl, eT⟩ := hq
          have N := Fr.app N (Fr.nil n0)
          show Gl p e below s own_rGE.cells own_rGE.slots (fun v h L => v = some res ∧ Fr n0 L ∧ h = h0) (T.setTop (mkF m 42 #[.val (.ref t), .val (.ref k), .val (.ref k), .val (.ref x), o] [(.int (cmp q ix))]))
          have os : storeLocals #[.val (.ref t), .val (.ref k), .val (.ref k), .val (.ref x), o] 4 (.int (cmp q ix)) = some #[.val (.ref t), .val (.ref k), .val (.ref k), .val (.ref x), .val (.int (cmp q ix))] := by
            rcases ho with rfl | ⟨w, rfl, hw⟩
            · rfl
            · cases w <;> first | rfl | (simp [Value.category] at hw)
          refine Gl.by (fun t_ k_ => XS.istore X.here hx rfl (hb hby d22_42) rfl (l' := #[.val (.ref t), .val (.ref k), .val (.ref k), .val (.ref x), .val (.int (cmp q ix))]) os k_) ?_
          show Gl p e below s own_rGE.cells own_rGE.slots (fun v h L => v = some res ∧ Fr n0 L ∧ h = h0) (T.setTop (mkF m 44 #[.val (.ref t), .val (.ref k), .val (.ref k), .val (.ref x), .val (.int (cmp q ix))] []))
          rcases h with ⟨c0, hre⟩ | ⟨c0, h⟩ | ⟨c0, h⟩
          · have ee : cmp q ix = 0 := by subst c0; exact (if_neg (fun z => lt_ne32 z rfl)).trans (if_pos rfl)
            rw [ee]
            show Gl p e below s own_rGE.cells own_rGE.slots (fun v h L => v = some res ∧ Fr n0 L ∧ h = h0) (T.setTop (mkF m 44 #[.val (.ref t), .val (.ref k), .val (.ref k), .val (.ref x), .val (.int (0 : Int32))] []))
            refine Gl.by (fun t_ k_ => XS.iload X.here hx rfl (hb hby d22_44) rfl k_) ?_
            show Gl p e below s own_rGE.cells own_rGE.slots (fun v h L => v = some res ∧ Fr n0 L ∧ h = h0) (T.setTop (mkF m 46 #[.val (.ref t), .val (.ref k), .val (.ref k), .val (.ref x), .val (.int (0 : Int32))] [(.int (0 : Int32))]))
            refine Gl.by (fun t_ k_ => XS.ifYes X.here hx rfl (pc0 := 46) (pc' := 57) rfl (hb hby d22_46) rfl ((if0 _ _).trans (flt (by decide : ¬ (0 : Int32) < 0)).2.1) (by decide) (by decide) k_) ?_
            show Gl p e below s own_rGE.cells own_rGE.slots (fun v h L => v = some res ∧ Fr n0 L ∧ h = h0) (T.setTop (mkF m 57 #[.val (.ref t), .val (.ref k), .val (.ref k), .val (.ref x), .val (.int (0 : Int32))] []))
            refine Gl.by (fun t_ k_ => XS.iload X.here hx rfl (hb hby d22_57) rfl k_) ?_
            show Gl p e below s own_rGE.cells own_rGE.slots (fun v h L => v = some res ∧ Fr n0 L ∧ h = h0) (T.setTop (mkF m 59 #[.val (.ref t), .val (.ref k), .val (.ref k), .val (.ref x), .val (.int (0 : Int32))] [(.int (0 : Int32))]))
            refine Gl.by (fun t_ k_ => XS.ifYes X.here hx rfl (pc0 := 59) (pc' := 70) rfl (hb hby d22_59) rfl ((if0 _ _).trans (flt (by decide : ¬ (0 : Int32) < 0)).2.2.2) (by decide) (by decide) k_) ?_
            show Gl p e below s own_rGE.cells own_rGE.slots (fun v h L => v = some res ∧ Fr n0 L ∧ h = h0) (T.setTop (mkF m 70 #[.val (.ref t), .val (.ref k), .val (.ref k), .val (.ref x), .val (.int (0 : Int32))] []))
            refine Gl.by (fun t_ k_ => XS.aloadN X.here hx rfl (hb hby d22_70) rfl rfl k_) ?_
            show Gl p e below s own_rGE.cells own_rGE.slots (fun v h L => v = some res ∧ Fr n0 L ∧ h = h0) (T.setTop (mkF m 71 #[.val (.ref t), .val (.ref k), .val (.ref k), .val (.ref x), .val (.int (0 : Int32))] [(.ref x)]))
            exact Gl.retA X hx hlk hret rfl rfl (hb hby d22_71) (by decide) (by decide) ⟨by rw [hre], N, eT⟩
          · have ee : cmp q ix = -1 := if_pos c0
            rw [ee]
            show Gl p e below s own_rGE.cells own_rGE.slots (fun v h L => v = some res ∧ Fr n0 L ∧ h = h0) (T.setTop (mkF m 44 #[.val (.ref t), .val (.ref k), .val (.ref k), .val (.ref x), .val (.int (-1 : Int32))] []))
            refine Gl.by (fun t_ k_ => XS.iload X.here hx rfl (hb hby d22_44) rfl k_) ?_
            show Gl p e below s own_rGE.cells own_rGE.slots (fun v h L => v = some res ∧ Fr n0 L ∧ h = h0) (T.setTop (mkF m 46 #[.val (.ref t), .val (.ref k), .val (.ref k), .val (.ref x), .val (.int (-1 : Int32))] [(.int (-1 : Int32))]))
            refine Gl.by (fun t_ k_ => XS.ifNo X.here hx rfl (hb hby d22_46) rfl ((if0 _ _).trans (tlt (by decide : (-1 : Int32) < 0)).2.1) k_) ?_
            show Gl p e below s own_rGE.cells own_rGE.slots (fun v h L => v = some res ∧ Fr n0 L ∧ h = h0) (T.setTop (mkF m 49 #[.val (.ref t), .val (.ref k), .val (.ref k), .val (.ref x), .val (.int (-1 : Int32))] []))
            refine Gl.by (fun t_ k_ => XS.aloadN X.here hx rfl (hb hby d22_49) rfl rfl k_) ?_
            show Gl p e below s own_rGE.cells own_rGE.slots (fun v h L => v = some res ∧ Fr n0 L ∧ h = h0) (T.setTop (mkF m 50 #[.val (.ref t), .val (.ref k), .val (.ref k), .val (.ref x), .val (.int (-1 : Int32))] [(.ref x)]))
            obtain ⟨T, X, eT, st⟩ := getF X hx hZ hown (host := "") (Or.inl (hw _ (List.mem_of_getElem? (i := 200) rfl))) Via.refl eT hn.2.2.2.1 (g := (mkF m 50 #[.val (.ref t), .val (.ref k), .val (.ref k), .val (.ref x), .val (.int (-1 : Int32))] [(.ref x)])) rfl rfl (hb hby d22_50)
            refine Gl.by st ?_
            show Gl p e below s own_rGE.cells own_rGE.slots (fun v h L => v = some res ∧ Fr n0 L ∧ h = h0) (T.setTop (mkF m 53 #[.val (.ref t), .val (.ref k), .val (.ref k), .val (.ref x), .val (.int (-1 : Int32))] [lf]))
            refine Gl.by (fun t_ k_ => XS.astoreN X.here hx rfl (hb hby d22_53) rfl r1 (l' := #[.val (.ref t), .val (.ref k), .val (.ref k), .val lf, .val (.int (-1 : Int32))]) (XS.store1 rfl (Or.inr ⟨_, rfl, rfl⟩) (isref_cat r1)) k_) ?_
            show Gl p e below s own_rGE.cells own_rGE.slots (fun v h L => v = some res ∧ Fr n0 L ∧ h = h0) (T.setTop (mkF m 54 #[.val (.ref t), .val (.ref k), .val (.ref k), .val lf, .val (.int (-1 : Int32))] []))
            refine Gl.by (fun t_ k_ => XS.goto X.here hx rfl (pc0 := 54) (pc' := 72) rfl (hb hby d22_54) (by decide) (by decide) k_) ?_
            show Gl p e below s own_rGE.cells own_rGE.slots (fun v h L => v = some res ∧ Fr n0 L ∧ h = h0) (T.setTop (mkF m 72 #[.val (.ref t), .val (.ref k), .val (.ref k), .val lf, .val (.int (-1 : Int32))] []))
            refine Gl.by (fun t_ k_ => XS.goto X.here hx rfl (pc0 := 72) (pc' := 28) rfl (hb hby d22_72) (by decide) (by decide) k_) ?_
            show Gl p e below s own_rGE.cells own_rGE.slots (fun v h L => v = some res ∧ Fr n0 L ∧ h = h0) (T.setTop (mkF m 28 #[.val (.ref t), .val (.ref k), .val (.ref k), .val lf, .val (.int (-1 : Int32))] []))
            exact ih lf _ T _ X N eT (One.val rfl) r1 h
          · have ee : cmp q ix = 1 := (if_neg (lt_asymm32 c0)).trans (if_neg (fun z => lt_ne32 c0 z.symm))
            rw [ee]
            show Gl p e below s own_rGE.cells own_rGE.slots (fun v h L => v = some res ∧ Fr n0 L ∧ h = h0) (T.setTop (mkF m 44 #[.val (.ref t), .val (.ref k), .val (.ref k), .val (.ref x), .val (.int (1 : Int32))] []))
            refine Gl.by (fun t_ k_ => XS.iload X.here hx rfl (hb hby d22_44) rfl k_) ?_
            show Gl p e below s own_rGE.cells own_rGE.slots (fun v h L => v = some res ∧ Fr n0 L ∧ h = h0) (T.setTop (mkF m 46 #[.val (.ref t), .val (.ref k), .val (.ref k), .val (.ref x), .val (.int (1 : Int32))] [(.int (1 : Int32))]))
            refine Gl.by (fun t_ k_ => XS.ifYes X.here hx rfl (pc0 := 46) (pc' := 57) rfl (hb hby d22_46) rfl ((if0 _ _).trans (flt (by decide : ¬ (1 : Int32) < 0)).2.1) (by decide) (by decide) k_) ?_
            show Gl p e below s own_rGE.cells own_rGE.slots (fun v h L => v = some res ∧ Fr n0 L ∧ h = h0) (T.setTop (mkF m 57 #[.val (.ref t), .val (.ref k), .val (.ref k), .val (.ref x), .val (.int (1 : Int32))] []))
            refine Gl.by (fun t_ k_ => XS.iload X.here hx rfl (hb hby d22_57) rfl k_) ?_
            show Gl p e below s own_rGE.cells own_rGE.slots (fun v h L => v = some res ∧ Fr n0 L ∧ h = h0) (T.setTop (mkF m 59 #[.val (.ref t), .val (.ref k), .val (.ref k), .val (.ref x), .val (.int (1 : Int32))] [(.int (1 : Int32))]))
            refine Gl.by (fun t_ k_ => XS.ifNo X.here hx rfl (hb hby d22_59) rfl ((if0 _ _).trans (tlt (by decide : (0 : Int32) < 1)).2.2.2) k_) ?_
            show Gl p e below s own_rGE.cells own_rGE.slots (fun v h L => v = some res ∧ Fr n0 L ∧ h = h0) (T.setTop (mkF m 62 #[.val (.ref t), .val (.ref k), .val (.ref k), .val (.ref x), .val (.int (1 : Int32))] []))
            refine Gl.by (fun t_ k_ => XS.aloadN X.here hx rfl (hb hby d22_62) rfl rfl k_) ?_
            show Gl p e below s own_rGE.cells own_rGE.slots (fun v h L => v = some res ∧ Fr n0 L ∧ h = h0) (T.setTop (mkF m 63 #[.val (.ref t), .val (.ref k), .val (.ref k), .val (.ref x), .val (.int (1 : Int32))] [(.ref x)]))
            obtain ⟨T, X, eT, st⟩ := getF X hx hZ hown (host := "") (Or.inl (hw _ (List.mem_of_getElem? (i := 175) rfl))) Via.refl eT hn.2.2.2.2.1 (g := (mkF m 63 #[.val (.ref t), .val (.ref k), .val (.ref k), .val (.ref x), .val (.int (1 : Int32))] [(.ref x)])) rfl rfl (hb hby d22_63)
            refine Gl.by st ?_
            show Gl p e below s own_rGE.cells own_rGE.slots (fun v h L => v = some res ∧ Fr n0 L ∧ h = h0) (T.setTop (mkF m 66 #[.val (.ref t), .val (.ref k), .val (.ref k), .val (.ref x), .val (.int (1 : Int32))] [rg]))
            refine Gl.by (fun t_ k_ => XS.astoreN X.here hx rfl (hb hby d22_66) rfl r2 (l' := #[.val (.ref t), .val (.ref k), .val (.ref k), .val rg, .val (.int (1 : Int32))]) (XS.store1 rfl (Or.inr ⟨_, rfl, rfl⟩) (isref_cat r2)) k_) ?_
            show Gl p e below s own_rGE.cells own_rGE.slots (fun v h L => v = some res ∧ Fr n0 L ∧ h = h0) (T.setTop (mkF m 67 #[.val (.ref t), .val (.ref k), .val (.ref k), .val rg, .val (.int (1 : Int32))] []))
            refine Gl.by (fun t_ k_ => XS.goto X.here hx rfl (pc0 := 67) (pc' := 72) rfl (hb hby d22_67) (by decide) (by decide) k_) ?_
            show Gl p e below s own_rGE.cells own_rGE.slots (fun v h L => v = some res ∧ Fr n0 L ∧ h = h0) (T.setTop (mkF m 72 #[.val (.ref t), .val (.ref k), .val (.ref k), .val rg, .val (.int (1 : Int32))] []))
            refine Gl.by (fun t_ k_ => XS.goto X.here hx rfl (pc0 := 72) (pc' := 28) rfl (hb hby d22_72) (by decide) (by decide) k_) ?_
            show Gl p e below s own_rGE.cells own_rGE.slots (fun v h L => v = some res ∧ Fr n0 L ∧ h = h0) (T.setTop (mkF m 28 #[.val (.ref t), .val (.ref k), .val (.ref k), .val rg, .val (.int (1 : Int32))] []))
            exact ih rg _ T _ X N eT (One.val rfl) r2 h
  show Gl p e below s own_rGE.cells own_rGE.slots (fun v h L => v = some res ∧ Fr n0 L ∧ h = h0) (T.setTop (mkF m 0 #[.val (.ref t), .val (.ref k), .unset, .unset, .unset] []))
  refine Gl.by (fun t_ k_ => XS.aloadN X.here hx rfl (hb hby d22_0) rfl rfl k_) ?_
  show Gl p e below s own_rGE.cells own_rGE.slots (fun v h L => v = some res ∧ Fr n0 L ∧ h = h0) (T.setTop (mkF m 1 #[.val (.ref t), .val (.ref k), .unset, .unset, .unset] [(.ref t)]))
  obtain ⟨T, X, eT, st⟩ := getF X hx hZ hown (host := "") (Or.inl (hw _ (List.mem_of_getElem? (i := 34) rfl))) Via.refl eT ht.2.1 (g := (mkF m 1 #[.val (.ref t), .val (.ref k), .unset, .unset, .unset] [(.ref t)])) rfl rfl (hb hby d22_1)
  refine Gl.by st ?_
  show Gl p e below s own_rGE.cells own_rGE.slots (fun v h L => v = some res ∧ Fr n0 L ∧ h = h0) (T.setTop (mkF m 4 #[.val (.ref t), .val (.ref k), .unset, .unset, .unset] [.null]))
  refine Gl.by (fun t_ k_ => XS.ifnullYes X.here hx rfl (pc0 := 4) (pc' := 13) rfl (hb hby d22_4) rfl (by decide) (by decide) k_) ?_
  show Gl p e below s own_rGE.cells own_rGE.slots (fun v h L => v = some res ∧ Fr n0 L ∧ h = h0) (T.setTop (mkF m 13 #[.val (.ref t), .val (.ref k), .unset, .unset, .unset] []))
  refine Gl.by (fun t_ k_ => XS.aloadN X.here hx rfl (hb hby d22_13) rfl rfl k_) ?_
  show Gl p e below s own_rGE.cells own_rGE.slots (fun v h L => v = some res ∧ Fr n0 L ∧ h = h0) (T.setTop (mkF m 14 #[.val (.ref t), .val (.ref k), .unset, .unset, .unset] [(.ref k)]))
  refine Gl.stat X hx hZ hown (hw _ (List.mem_of_getElem? (i := 108) rfl)) (hw _ (List.mem_of_getElem? (i := 109) rfl)) (hw _ (List.mem_of_getElem? (i := 110) rfl)) (hw _ (List.mem_of_getElem? (i := 111) rfl)) (by decide) (W := 0) (backC (own_rnn l Z a0 hw k h0 n0) hZ (hw _ (List.mem_of_getElem? (i := 111) rfl)) (hw _ (List.mem_of_getElem? (i := 110) rfl)) (by decide) (by decide)) eT (hb hby d22_14) (by rw [hml]; rfl) [(.ref k)] [] (lenOf pd_9 rfl) rfl rfl (Nat.le_of_eq rfl) (by decide) (by decide) ?_
  intro v T L X hq
  obtain ⟨rfl, rfl, eT⟩ := hq
  have N := Fr.app N (Fr.nil n0)
  show Gl p e below s own_rGE.cells own_rGE.slots (fun v h L => v = some res ∧ Fr n0 L ∧ h = h0) (T.setTop (mkF m 17 #[.val (.ref t), .val (.ref k), .unset, .unset, .unset] [(.ref k)]))
  refine Gl.by (fun t_ k_ => XS.pop X.here hx rfl (hb hby d22_17) rfl rfl k_) ?_
  show Gl p e below s own_rGE.cells own_rGE.slots (fun v h L => v = some res ∧ Fr n0 L ∧ h = h0) (T.setTop (mkF m 18 #[.val (.ref t), .val (.ref k), .unset, .unset, .unset] []))
  refine Gl.by (fun t_ k_ => XS.aloadN X.here hx rfl (hb hby d22_18) rfl rfl k_) ?_
  show Gl p e below s own_rGE.cells own_rGE.slots (fun v h L => v = some res ∧ Fr n0 L ∧ h = h0) (T.setTop (mkF m 19 #[.val (.ref t), .val (.ref k), .unset, .unset, .unset] [(.ref k)]))
  obtain ⟨T, X, eT, st⟩ := castY X hx hZ hown (hw _ (List.mem_of_getElem? (i := 70) rfl)) eT (Ins.of_exa hk.1 (hw _ (List.mem_of_getElem? (i := 71) rfl))) (g := (mkF m 19 #[.val (.ref t), .val (.ref k), .unset, .unset, .unset] [(.ref k)])) rfl rfl (hb hby d22_19)
  refine Gl.by st ?_
  show Gl p e below s own_rGE.cells own_rGE.slots (fun v h L => v = some res ∧ Fr n0 L ∧ h = h0) (T.setTop (mkF m 22 #[.val (.ref t), .val (.ref k), .unset, .unset, .unset] [(.ref k)]))
  refine Gl.by (fun t_ k_ => XS.astoreN X.here hx rfl (hb hby d22_22) rfl rfl (l' := #[.val (.ref t), .val (.ref k), .val (.ref k), .unset, .unset]) rfl k_) ?_
  show Gl p e below s own_rGE.cells own_rGE.slots (fun v h L => v = some res ∧ Fr n0 L ∧ h = h0) (T.setTop (mkF m 23 #[.val (.ref t), .val (.ref k), .val (.ref k), .unset, .unset] []))
  refine Gl.by (fun t_ k_ => XS.aloadN X.here hx rfl (hb hby d22_23) rfl rfl k_) ?_
  show Gl p e below s own_rGE.cells own_rGE.slots (fun v h L => v = some res ∧ Fr n0 L ∧ h = h0) (T.setTop (mkF m 24 #[.val (.ref t), .val (.ref k), .val (.ref k), .unset, .unset] [(.ref t)]))
  obtain ⟨T, X, eT, st⟩ := getF X hx hZ hown (host := "") (Or.inl (hw _ (List.mem_of_getElem? (i := 58) rfl))) Via.refl eT ht.2.2.1 (g := (mkF m 24 #[.val (.ref t), .val (.ref k), .val (.ref k), .unset, .unset] [(.ref t)])) rfl rfl (hb hby d22_24)
  refine Gl.by st ?_
  show Gl p e below s own_rGE.cells own_rGE.slots (fun v h L => v = some res ∧ Fr n0 L ∧ h = h0) (T.setTop (mkF m 27 #[.val (.ref t), .val (.ref k), .val (.ref k), .unset, .unset] [rt]))
  refine Gl.by (fun t_ k_ => XS.astoreN X.here hx rfl (hb hby d22_27) rfl hrt (l' := #[.val (.ref t), .val (.ref k), .val (.ref k), .val rt, .unset]) (XS.store1 rfl (Or.inl rfl) (isref_cat hrt)) k_) ?_
  show Gl p e below s own_rGE.cells own_rGE.slots (fun v h L => v = some res ∧ Fr n0 L ∧ h = h0) (T.setTop (mkF m 28 #[.val (.ref t), .val (.ref k), .val (.ref k), .val rt, .unset] []))
  exact loop n rt _ T _ X N eT One.u hrt hs
set_option maxRecDepth 65536 in
set_option maxHeartbeats 40000000 in
theorem own_get (l : Launch) (Z : State) (a0 : Array Value) (hw : ∀ d ∈ tables_1, d.before a0 Z = true) (t k : Nat) (q sz mc : Int32) (n : Nat) (rt res : Value) (fo : Option Value) (h0 : Heap) (n0 : Nat) (ht : Tmo Z h0 t rt sz mc) (hrt : rt.isRef = true) (hk : IntO Z h0 k q) (hs : Sr Z h0 q n rt res) (ha : Ans Z h0 fo res) :
    Ctr l Z (⟨"java/util/TreeMap", "get", "(Ljava/lang/Object;)Ljava/lang/Object;"⟩ : MethodName) jdk_2729_method_8_code 3 (some (.object "java/lang/Object")) [] own_rGT #[(.ref t), (.ref k)] h0 (fun v h L => v = some (fo.getD .null) ∧ Fr n0 L ∧ h = h0) := by
  refine Ctr.intro pn_3 #[.val (.ref t), .val (.ref k), .unset] (fun m => by first | rfl | (simp [entryFrame, mkF, argsToLocals, Value.category]; done)) ?_
  intro p e s m below meth c T hx hby hml hown hnm hret hlk hZ X eT
  have hown : s.vm.findClass "java/util/TreeMap" = some m.cls := hown
  have N := Fr.nil n0
  have hres : res.isRef = true := by rcases ha with ⟨-, rfl⟩ | ⟨x, u, -, rfl, -⟩ <;> rfl
  show Gl p e below s _ _ _ (T.setTop (mkF m 0 #[.val (.ref t), .val (.ref k), .unset] []))
  refine Gl.by (fun t_ k_ => XS.aloadN X.here hx rfl (hb hby d21_0) rfl rfl k_) ?_
  show Gl p e below s _ _ _ (T.setTop (mkF m 1 #[.val (.ref t), .val (.ref k), .unset] [(.ref t)]))
  refine Gl.by (fun t_ k_ => XS.aloadN X.here hx rfl (hb hby d21_1) rfl rfl k_) ?_
  show Gl p e below s _ _ _ (T.setTop (mkF m 2 #[.val (.ref t), .val (.ref k), .unset] [(.ref k), (.ref t)]))
  refine Gl.virt X hx hZ hown (hw _ (List.mem_of_getElem? (i := 157) rfl)) (hw _ (List.mem_of_getElem? (i := 158) rfl)) (hw _ (List.mem_of_getElem? (i := 160) rfl)) (hw _ (List.mem_of_getElem? (i := 159) rfl)) (notFace_of_selects (args := #[]) (mvT hZ (hw _ (List.mem_of_getElem? (i := 160) rfl)))) (by decide) ht.1 (W := 0) (backC (own_gete l Z a0 hw t k q sz mc n rt res h0 n0 ht hrt hk hs) hZ (hw _ (List.mem_of_getElem? (i := 161) rfl)) (hw _ (List.mem_of_getElem? (i := 19) rfl)) (by decide) (by decide)) eT (hb hby d21_2) (by rw [hml]; rfl) [(.ref k)] [] (lenOf pd_14 rfl) rfl rfl (Nat.le_of_eq rfl) (by decide) (by decide) ?_
  intro v T L X hq
  obtain ⟨rfl, NQ, eT⟩ := hq
  have N := Fr.app N NQ
  show Gl p e below s _ _ _ (T.setTop (mkF m 5 #[.val (.ref t), .val (.ref k), .unset] [res]))
  refine Gl.by (fun t_ k_ => XS.astoreN X.here hx rfl (hb hby d21_5) rfl hres (l' := #[.val (.ref t), .val (.ref k), .val res]) (XS.store1 rfl (Or.inl rfl) (isref_cat hres)) k_) ?_
  show Gl p e below s _ _ _ (T.setTop (mkF m 6 #[.val (.ref t), .val (.ref k), .val res] []))
  refine Gl.by (fun t_ k_ => XS.aloadN X.here hx rfl (hb hby d21_6) rfl hres k_) ?_
  show Gl p e below s _ _ _ (T.setTop (mkF m 7 #[.val (.ref t), .val (.ref k), .val res] [res]))
  rcases ha with ⟨eo, rfl⟩ | ⟨x, u, eo, rfl, fu, hu, ex⟩
  · show Gl p e below s _ _ _ (T.setTop (mkF m 7 #[.val (.ref t), .val (.ref k), .val .null] [.null]))
    refine Gl.by (fun t_ k_ => XS.ifnonnullNo X.here hx rfl (hb hby d21_7) rfl k_) ?_
    show Gl p e below s _ _ _ (T.setTop (mkF m 10 #[.val (.ref t), .val (.ref k), .val .null] []))
    refine Gl.by (fun t_ k_ => XS.aconstNull X.here hx rfl (hb hby d21_10) k_) ?_
    show Gl p e below s _ _ _ (T.setTop (mkF m 11 #[.val (.ref t), .val (.ref k), .val .null] [.null]))
    refine Gl.by (fun t_ k_ => XS.goto X.here hx rfl (pc0 := 11) (pc' := 18) rfl (hb hby d21_11) (by decide) (by decide) k_) ?_
    show Gl p e below s _ _ _ (T.setTop (mkF m 18 #[.val (.ref t), .val (.ref k), .val .null] [.null]))
    refine Gl.retA X hx hlk hret rfl rfl (hb hby d21_18) (by decide) (by decide) ⟨?_, N, eT⟩
    rw [eo]; rfl
  · show Gl p e below s _ _ _ (T.setTop (mkF m 7 #[.val (.ref t), .val (.ref k), .val (.ref x)] [(.ref x)]))
    refine Gl.by (fun t_ k_ => XS.ifnonnullYes X.here hx rfl (pc0 := 7) (pc' := 14) rfl (hb hby d21_7) rfl (by decide) (by decide) k_) ?_
    show Gl p e below s _ _ _ (T.setTop (mkF m 14 #[.val (.ref t), .val (.ref k), .val (.ref x)] []))
    refine Gl.by (fun t_ k_ => XS.aloadN X.here hx rfl (hb hby d21_14) rfl rfl k_) ?_
    show Gl p e below s _ _ _ (T.setTop (mkF m 15 #[.val (.ref t), .val (.ref k), .val (.ref x)] [(.ref x)]))
    obtain ⟨T, X, eT, st⟩ := getF X hx hZ hown (host := "") (Or.inl (hw _ (List.mem_of_getElem? (i := 113) rfl))) Via.refl eT fu (g := (mkF m 15 #[.val (.ref t), .val (.ref k), .val (.ref x)] [(.ref x)])) rfl rfl (hb hby d21_15)
    refine Gl.by st ?_
    show Gl p e below s _ _ _ (T.setTop (mkF m 18 #[.val (.ref t), .val (.ref k), .val (.ref x)] [u]))
    refine Gl.retA X hx hlk hret rfl hu (hb hby d21_18) (by decide) (by decide) ⟨?_, N, eT⟩
    rw [eo]; rfl
set_option maxRecDepth 65536 in
set_option maxHeartbeats 40000000 in
theorem own_geti (l : Launch) (Z : State) (a0 : Array Value) (hw : ∀ d ∈ tables_1, d.before a0 Z = true) (cv t : Nat) (q sz : Int32) (f : Int32 → Option Value) (h0 : Heap) (n0 : Nat) (Z0 : n0 ≤ h0.size) (C : ICok Z) (O : Old Z n0 h0) (Fv : Fld Z h0 cv "com/example/hookwright/hookwright/ConstructorArgumentValues" "values" "Ljava/util/Map;" (.ref t)) (hm : Mp Z h0 t sz f) :
    Ctr l Z (⟨"com/example/hookwright/hookwright/ConstructorArgumentValues", "getIndexedArgumentValue", "(I)Ljava/lang/Object;"⟩ : MethodName) prog_22_method_4_code 2 (some (.object "java/lang/Object")) [] own_rGI #[(.ref cv), (.int q)] h0 (fun v h L => (v = some ((f q).getD .null) ∧ ((f q).getD .null).isRef = true) ∧ Fr n0 L ∧ Keep h0 h []) := by
  refine Ctr.intro pn_5 #[.val (.ref cv), .val (.int q)] (fun m => by first | rfl | (simp [entryFrame, mkF, argsToLocals, Value.category]; done)) ?_
  intro p e s m below meth c T hx hby hml hown hnm hret hlk hZ X eT
  have hown : s.vm.findClass "com/example/hookwright/hookwright/ConstructorArgumentValues" = some m.cls := hown
  have N := Fr.nil n0
  show Gl p e below s _ _ _ (T.setTop (mkF m 0 #[.val (.ref cv), .val (.int q)] []))
  refine Gl.by (fun t_ k_ => XS.aloadN X.here hx rfl (hb hby d20_0) rfl rfl k_) ?_
  show Gl p e below s _ _ _ (T.setTop (mkF m 1 #[.val (.ref cv), .val (.int q)] [(.ref cv)]))
  obtain ⟨T, X, eT, st⟩ := getF X hx hZ hown (host := "") (Or.inl (hw _ (List.mem_of_getElem? (i := 36) rfl))) Via.refl eT Fv (g := (mkF m 1 #[.val (.ref cv), .val (.int q)] [(.ref cv)])) rfl rfl (hb hby d20_1)
  refine Gl.by st ?_
  show Gl p e below s _ _ _ (T.setTop (mkF m 4 #[.val (.ref cv), .val (.int q)] [(.ref t)]))
  refine Gl.by (fun t_ k_ => XS.iloadN X.here hx rfl (hb hby d20_4) rfl k_) ?_
  show Gl p e below s _ _ _ (T.setTop (mkF m 5 #[.val (.ref cv), .val (.int q)] [(.int q), (.ref t)]))
  refine Gl.stat X hx hZ hown (hw _ (List.mem_of_getElem? (i := 43) rfl)) (hw _ (List.mem_of_getElem? (i := 2) rfl)) (hw _ (List.mem_of_getElem? (i := 3) rfl)) (hw _ (List.mem_of_getElem? (i := 4) rfl)) (by decide) (W := 1) (backC (own_vof l Z a0 hw q h0 n0 Z0 C O) hZ (hw _ (List.mem_of_getElem? (i := 4) rfl)) (hw _ (List.mem_of_getElem? (i := 3) rfl)) (by decide) (by decide)) eT (hb hby d20_5) (by rw [hml]; rfl) [(.int q)] [(.ref t)] (lenOf pd_12 rfl) rfl rfl (Nat.le_of_eq rfl) (by decide) (by decide) ?_
  intro v T L X hq
  obtain ⟨NQ, K1, k, rfl, F1⟩ := hq
  have N := Fr.app N NQ
  obtain ⟨h1, eT⟩ : ∃ z, T.heap = z := ⟨_, rfl⟩
  rw [eT] at K1 F1
  have sz1 := K1.1
  show Gl p e below s _ _ _ (T.setTop (mkF m 8 #[.val (.ref cv), .val (.int q)] [(.ref k), (.ref t)]))
  obtain ⟨rt, mc, ht, hrt, hg⟩ := hm.keep0 K1
  obtain ⟨n, res, hs, ha⟩ := hg q
  refine Gl.face X hx hZ hown (hw _ (List.mem_of_getElem? (i := 149) rfl)) (hw _ (List.mem_of_getElem? (i := 150) rfl)) (mvT hZ (hw _ (List.mem_of_getElem? (i := 151) rfl))) (hw _ (List.mem_of_getElem? (i := 152) rfl)) (hw _ (List.mem_of_getElem? (i := 153) rfl)) (hw _ (List.mem_of_getElem? (i := 154) rfl)) (hw _ (List.mem_of_getElem? (i := 155) rfl)) (hw _ (List.mem_of_getElem? (i := 51) rfl)) (by decide) (hm.choose_spec.choose_spec.1.1.keep K1) (W := 0) (backC (own_get l Z a0 hw t k q sz mc n rt res (f q) h1 n0 ht hrt F1 hs ha) hZ (hw _ (List.mem_of_getElem? (i := 156) rfl)) (hw _ (List.mem_of_getElem? (i := 19) rfl)) (by decide) (by decide)) eT (hb hby d20_8) (by rw [hml]; rfl) [(.ref k)] [] (lenOf pd_9 rfl) rfl rfl (Nat.le_of_eq rfl) (by decide) (by decide) ?_
  intro v T L X hq
  obtain ⟨rfl, NQ2, eT⟩ := hq
  have N := Fr.app N NQ2
  show Gl p e below s _ _ _ (T.setTop (mkF m 13 #[.val (.ref cv), .val (.int q)] [((f q).getD .null)]))
  have hvr : ((f q).getD .null).isRef = true := by
    rcases ha with ⟨eo, -⟩ | ⟨x, u, eo, -, -, hu, -⟩
    · rw [eo]; rfl
    · rw [eo]; exact hu
  refine Gl.retA X hx hlk hret rfl hvr (hb hby d20_13) (by decide) (by decide) ⟨⟨rfl, hvr⟩, N, ?_⟩
  rw [eT]; exact K1
set_option maxRecDepth 65536 in
set_option maxHeartbeats 40000000 in
theorem own_ck (l : Launch) (Z : State) (a0 : Array Value) (hw : ∀ d ∈ tables_1, d.before a0 Z = true) (t k : Nat) (q sz mc : Int32) (n : Nat) (rt res : Value) (fo : Option Value) (h0 : Heap) (n0 : Nat) (ht : Tmo Z h0 t rt sz mc) (hrt : rt.isRef = true) (hk : IntO Z h0 k q) (hs : Sr Z h0 q n rt res) (ha : Ans Z h0 fo res) :
    Ctr l Z (⟨"java/util/TreeMap", "containsKey", "(Ljava/lang/Object;)Z"⟩ : MethodName) jdk_2729_method_6_code 2 (some .boolean) [] own_rGT #[(.ref t), (.ref k)] h0 (fun v h L => v = some (.int (if fo.isSome = true then 1 else 0)) ∧ Fr n0 L ∧ h = h0) := by
  refine Ctr.intro pn_3 #[.val (.ref t), .val (.ref k)] (fun m => by first | rfl | (simp [entryFrame, mkF, argsToLocals, Value.category]; done)) ?_
  intro p e s m below meth c T hx hby hml hown hnm hret hlk hZ X eT
  have hown : s.vm.findClass "java/util/TreeMap" = some m.cls := hown
  have N := Fr.nil n0
  have hres : res.isRef = true := by rcases ha with ⟨-, rfl⟩ | ⟨x, u, -, rfl, -⟩ <;> rfl
  show Gl p e below s _ _ _ (T.setTop (mkF m 0 #[.val (.ref t), .val (.ref k)] []))
  refine Gl.by (fun t_ k_ => XS.aloadN X.here hx rfl (hb hby d24_0) rfl rfl k_) ?_
  show Gl p e below s _ _ _ (T.setTop (mkF m 1 #[.val (.ref t), .val (.ref k)] [(.ref t)]))
  refine Gl.by (fun t_ k_ => XS.aloadN X.here hx rfl (hb hby d24_1) rfl rfl k_) ?_
  show Gl p e below s _ _ _ (T.setTop (mkF m 2 #[.val (.ref t), .val (.ref k)] [(.ref k), (.ref t)]))
  refine Gl.virt X hx hZ hown (hw _ (List.mem_of_getElem? (i := 157) rfl)) (hw _ (List.mem_of_getElem? (i := 158) rfl)) (hw _ (List.mem_of_getElem? (i := 160) rfl)) (hw _ (List.mem_of_getElem? (i := 159) rfl)) (notFace_of_selects (args := #[]) (mvT hZ (hw _ (List.mem_of_getElem? (i := 160) rfl)))) (by decide) ht.1 (W := 0) (backC (own_gete l Z a0 hw t k q sz mc n rt res h0 n0 ht hrt hk hs) hZ (hw _ (List.mem_of_getElem? (i := 161) rfl)) (hw _ (List.mem_of_getElem? (i := 19) rfl)) (by decide) (by decide)) eT (hb hby d24_2) (by rw [hml]; rfl) [(.ref k)] [] (lenOf pd_14 rfl) rfl rfl (Nat.le_of_eq rfl) (by decide) (by decide) ?_
  intro v T L X hq
  obtain ⟨rfl, NQ, eT⟩ := hq
  have N := Fr.app N NQ
  show Gl p e below s _ _ _ (T.setTop (mkF m 5 #[.val (.ref t), .val (.ref k)] [res]))
  rcases ha with ⟨eo, rfl⟩ | ⟨x, u, eo, rfl, fu, hu, ex⟩
  · show Gl p e below s _ _ _ (T.setTop (mkF m 5 #[.val (.ref t), .val (.ref k)] [.null]))
    refine Gl.by (fun t_ k_ => XS.ifnullYes X.here hx rfl (pc0 := 5) (pc' := 12) rfl (hb hby d24_5) rfl (by decide) (by decide) k_) ?_
    show Gl p e below s _ _ _ (T.setTop (mkF m 12 #[.val (.ref t), .val (.ref k)] []))
    refine Gl.by (fun t_ k_ => XS.iconst X.here hx rfl (hb hby d24_12) k_) ?_
    show Gl p e below s _ _ _ (T.setTop (mkF m 13 #[.val (.ref t), .val (.ref k)] [(.int (0 : Int32))]))
    refine Gl.retZ X hx hlk hret (by simp) (hb hby d24_13) (by decide) (by decide) ⟨?_, N, eT⟩
    rw [eo]; rfl
  · show Gl p e below s _ _ _ (T.setTop (mkF m 5 #[.val (.ref t), .val (.ref k)] [(.ref x)]))
    refine Gl.by (fun t_ k_ => XS.ifnullNo X.here hx rfl (hb hby d24_5) rfl k_) ?_
    show Gl p e below s _ _ _ (T.setTop (mkF m 8 #[.val (.ref t), .val (.ref k)] []))
    refine Gl.by (fun t_ k_ => XS.iconst X.here hx rfl (hb hby d24_8) k_) ?_
    show Gl p e below s _ _ _ (T.setTop (mkF m 9 #[.val (.ref t), .val (.ref k)] [(.int (1 : Int32))]))
    refine Gl.by (fun t_ k_ => XS.goto X.here hx rfl (pc0 := 9) (pc' := 13) rfl (hb hby d24_9) (by decide) (by decide) k_) ?_
    show Gl p e below s _ _ _ (T.setTop (mkF m 13 #[.val (.ref t), .val (.ref k)] [(.int (1 : Int32))]))
    refine Gl.retZ X hx hlk hret (by simp) (hb hby d24_13) (by decide) (by decide) ⟨?_, N, eT⟩
    rw [eo]; rfl
set_option maxRecDepth 65536 in
set_option maxHeartbeats 40000000 in
theorem own_hasi (l : Launch) (Z : State) (a0 : Array Value) (hw : ∀ d ∈ tables_1, d.before a0 Z = true) (cv t : Nat) (q sz : Int32) (f : Int32 → Option Value) (h0 : Heap) (n0 : Nat) (Z0 : n0 ≤ h0.size) (C : ICok Z) (O : Old Z n0 h0) (Fv : Fld Z h0 cv "com/example/hookwright/hookwright/ConstructorArgumentValues" "values" "Ljava/util/Map;" (.ref t)) (hm : Mp Z h0 t sz f) :
    Ctr l Z (⟨"com/example/hookwright/hookwright/ConstructorArgumentValues", "hasIndexedArgumentValue", "(I)Z"⟩ : MethodName) prog_22_method_3_code 2 (some .boolean) [] own_rGI #[(.ref cv), (.int q)] h0 (fun v h L => v = some (.int (if (f q).isSome = true then 1 else 0)) ∧ Fr n0 L ∧ Keep h0 h []) := by
  refine Ctr.intro pn_5 #[.val (.ref cv), .val (.int q)] (fun m => by first | rfl | (simp [entryFrame, mkF, argsToLocals, Value.category]; done)) ?_
  intro p e s m below meth c T hx hby hml hown hnm hret hlk hZ X eT
  have hown : s.vm.findClass "com/example/hookwright/hookwright/ConstructorArgumentValues" = some m.cls := hown
  have N := Fr.nil n0
  show Gl p e below s _ _ _ (T.setTop (mkF m 0 #[.val (.ref cv), .val (.int q)] []))
  refine Gl.by (fun t_ k_ => XS.aloadN X.here hx rfl (hb hby d23_0) rfl rfl k_) ?_
  show Gl p e below s _ _ _ (T.setTop (mkF m 1 #[.val (.ref cv), .val (.int q)] [(.ref cv)]))
  obtain ⟨T, X, eT, st⟩ := getF X hx hZ hown (host := "") (Or.inl (hw _ (List.mem_of_getElem? (i := 36) rfl))) Via.refl eT Fv (g := (mkF m 1 #[.val (.ref cv), .val (.int q)] [(.ref cv)])) rfl rfl (hb hby d23_1)
  refine Gl.by st ?_
  show Gl p e below s _ _ _ (T.setTop (mkF m 4 #[.val (.ref cv), .val (.int q)] [(.ref t)]))
  refine Gl.by (fun t_ k_ => XS.iloadN X.here hx rfl (hb hby d23_4) rfl k_) ?_
  show Gl p e below s _ _ _ (T.setTop (mkF m 5 #[.val (.ref cv), .val (.int q)] [(.int q), (.ref t)]))
  refine Gl.stat X hx hZ hown (hw _ (List.mem_of_getElem? (i := 43) rfl)) (hw _ (List.mem_of_getElem? (i := 2) rfl)) (hw _ (List.mem_of_getElem? (i := 3) rfl)) (hw _ (List.mem_of_getElem? (i := 4) rfl)) (by decide) (W := 1) (backC (own_vof l Z a0 hw q h0 n0 Z0 C O) hZ (hw _ (List.mem_of_getElem? (i := 4) rfl)) (hw _ (List.mem_of_getElem? (i := 3) rfl)) (by decide) (by decide)) eT (hb hby d23_5) (by rw [hml]; rfl) [(.int q)] [(.ref t)] (lenOf pd_12 rfl) rfl rfl (Nat.le_of_eq rfl) (by decide) (by decide) ?_
  intro v T L X hq
  obtain ⟨NQ, K1, k, rfl, F1⟩ := hq
  have N := Fr.app N NQ
  obtain ⟨h1, eT⟩ : ∃ z, T.heap = z := ⟨_, rfl⟩
  rw [eT] at K1 F1
  have sz1 := K1.1
  show Gl p e below s _ _ _ (T.setTop (mkF m 8 #[.val (.ref cv), .val (.int q)] [(.ref k), (.ref t)]))
  obtain ⟨rt, mc, ht, hrt, hg⟩ := hm.keep0 K1
  obtain ⟨n, res, hs, ha⟩ := hg q
  refine Gl.face X hx hZ hown (hw _ (List.mem_of_getElem? (i := 167) rfl)) (hw _ (List.mem_of_getElem? (i := 168) rfl)) (mvT hZ (hw _ (List.mem_of_getElem? (i := 169) rfl))) (hw _ (List.mem_of_getElem? (i := 170) rfl)) (hw _ (List.mem_of_getElem? (i := 171) rfl)) (hw _ (List.mem_of_getElem? (i := 172) rfl)) (hw _ (List.mem_of_getElem? (i := 173) rfl)) (hw _ (List.mem_of_getElem? (i := 51) rfl)) (by decide) (hm.choose_spec.choose_spec.1.1.keep K1) (W := 0) (backC (own_ck l Z a0 hw t k q sz mc n rt res (f q) h1 n0 ht hrt F1 hs ha) hZ (hw _ (List.mem_of_getElem? (i := 174) rfl)) (hw _ (List.mem_of_getElem? (i := 19) rfl)) (by decide) (by decide)) eT (hb hby d23_8) (by rw [hml]; rfl) [(.ref k)] [] (lenOf pd_15 rfl) rfl rfl (Nat.le_of_eq rfl) (by decide) (by decide) ?_
  intro v T L X hq
  obtain ⟨rfl, NQ2, eT⟩ := hq
  have N := Fr.app N NQ2
  show Gl p e below s _ _ _ (T.setTop (mkF m 13 #[.val (.ref cv), .val (.int q)] [(.int (if (f q).isSome = true then 1 else 0))]))
  refine Gl.retZ X hx hlk hret (by simp) (hb hby d23_13) (by decide) (by decide) ⟨?_, N, ?_⟩
  · show some (Value.int (nar .boolean (if (f q).isSome = true then 1 else 0))) = _
    split <;> rfl
  · rw [eT]; exact K1
theorem own_mask (x : Int32) : ¬ (x &&& (2147483647 : Int32)) < 0 := by
  have := (c_and x 2147483647 (by decide)).1
  rw [Int32.lt_iff_toInt_lt]
  have e : (0 : Int32).toInt = 0 := rfl
  omega
theorem own_icok {s : State} {args : Array Value} (hw : ∀ d ∈ tables_1, d.before args s = true) (hs : ∀ w ∈ jdkStatics_1, w.before args s = true) : ICok s := by
  have s3 := Cond.before_iff.mp (hs _ (List.mem_of_getElem? (i := 3) rfl))
  obtain ⟨x, y, e1, e2, -, k2⟩ := cmp_v (Or.inl s3)
  cases (Term.int_eval (127)).symm.trans e2
  obtain ⟨z, rfl⟩ := k2
  have ez : z = 127 := gotT (Cond.eq_ints e1 (Term.int_eval (127))) s3
  subst ez
  have Sh : Sta s s.heap "java/lang/Integer$IntegerCache" "high" "I" (.int 127) := Sta.start e1 (Or.inl (hs _ (List.mem_of_getElem? (i := 1) rfl)))
  have s4 := Cond.before_iff.mp (hs _ (List.mem_of_getElem? (i := 4) rfl))
  obtain ⟨arr, ec⟩ := arr_v s4
  have Sc := Sta.start ec (Or.inr ⟨(hw _ (List.mem_of_getElem? (i := 6) rfl)), hs _ (List.mem_of_getElem? (i := 2) rfl)⟩)
  obtain ⟨cl, Ar⟩ := Arr.start ec s4
  have hat := Jvm.Free.IntBox.arrayAt_of Ar.1 Ar.2.1 Ar.2.2
  obtain ⟨hsz, hsize⟩ := Jvm.Free.IntBox.length_fwd (hs _ (List.mem_of_getElem? (i := 6) rfl)) ec Ar.1 Ar.2.1 Ar.2.2
  have hsz256 : cl.slots.size = 256 := by
    have e := len_toInt hsz
    rw [hsize] at e
    have : ((256 : Int32)).toInt = 256 := by decide
    omega
  have hall := Cond.all_elim (c := .and (.exactly (.elem (.static "java/lang/Integer$IntegerCache" "cache" "[Ljava/lang/Integer;") (.index 0)) "java/lang/Integer") (.eq (.field (.elem (.static "java/lang/Integer$IntegerCache" "cache" "[Ljava/lang/Integer;") (.index 0)) "java/lang/Integer" "value" "I") (.sub (.index 0) (.int 128)))) ec hat (Cond.before_iff.mp (hs _ (List.mem_of_getElem? (i := 7) rfl)))
  refine ⟨arr, cl, Sh, Sc, Ar, fun w h1 h2 => ?_⟩
  obtain ⟨hbnd, hlt⟩ := Jvm.Free.IntBox.place_ok w h1 h2
  have hj := hall _ (by rw [hsz256]; exact hlt)
  obtain ⟨v1, v2⟩ := and_e hj
  obtain ⟨box, eb⟩ := exa_v v1
  have hnn : ¬ (w + 128) < 0 := fun q => hbnd (Or.inl q)
  have ei := idx_at (args := args) (first := s) (o := none) (s := s) hnn
  obtain ⟨hin, hsl⟩ := elem_in eb ec ei Ar.1
  obtain ⟨x, y, f1, f2, -, g2⟩ := cmp_v (Or.inl v2)
  have f3 : (Term.sub (.index 0) (.int 128)).eval args s none [(w + 128).toNatClampNeg] s = some (.int w) := by
    simp [Term.eval, Jvm.Free.IntBox.place_val w h1 h2]
  cases f3.symm.trans f2
  obtain ⟨z, rfl⟩ := g2
  have ez : z = w := gotT (Cond.eq_ints f1 f3) v2
  subst ez
  exact ⟨box, hin, hsl, exa_at eb v1, Fld.start ((fld_at eb).symm.trans f1)⟩
set_option maxRecDepth 65536 in
set_option maxHeartbeats 40000000 in
theorem own_size (l : Launch) (Z : State) (a0 : Array Value) (hw : ∀ d ∈ tables_1, d.before a0 Z = true) (t : Nat) (rt : Value) (sz mc : Int32) (h0 : Heap) (n0 : Nat) (ht : Tmo Z h0 t rt sz mc) :
    Ctr l Z (⟨"java/util/TreeMap", "size", "()I"⟩ : MethodName) jdk_2729_method_5_code 1 (some .int) [] own_rSZ #[(.ref t)] h0 (fun v h L => v = some (.int sz) ∧ L = [] ∧ h = h0) := by
  refine Ctr.intro pn_3 #[.val (.ref t)] (fun m => by first | rfl | (simp [entryFrame, mkF, argsToLocals, Value.category]; done)) ?_
  intro p e s m below meth c T hx hby hml hown hnm hret hlk hZ X eT
  have hown : s.vm.findClass "java/util/TreeMap" = some m.cls := hown
  have N := Fr.nil n0
  show Gl p e below s _ _ _ (T.setTop (mkF m 0 #[.val (.ref t)] []))
  refine Gl.by (fun t_ k_ => XS.aloadN X.here hx rfl (hb hby d17_0) rfl rfl k_) ?_
  show Gl p e below s _ _ _ (T.setTop (mkF m 1 #[.val (.ref t)] [(.ref t)]))
  obtain ⟨T, X, eT, st⟩ := getF X hx hZ hown (host := "") (Or.inl (hw _ (List.mem_of_getElem? (i := 30) rfl))) Via.refl eT ht.2.2.2.1 (g := (mkF m 1 #[.val (.ref t)] [(.ref t)])) rfl rfl (hb hby d17_1)
  refine Gl.by st ?_
  show Gl p e below s _ _ _ (T.setTop (mkF m 4 #[.val (.ref t)] [(.int sz)]))
  exact Gl.retI X hx hlk hret (hb hby d17_4) (by decide) (by decide) ⟨rfl, rfl, eT⟩
set_option maxRecDepth 65536 in
set_option maxHeartbeats 40000000 in
theorem own_ame (l : Launch) (Z : State) (a0 : Array Value) (hw : ∀ d ∈ tables_1, d.before a0 Z = true) (t : Nat) (rt : Value) (sz mc : Int32) (h0 : Heap) (n0 : Nat) (ht : Tmo Z h0 t rt sz mc) (hsz : ¬ sz = (0 : Int32)) :
    Ctr l Z (⟨"java/util/AbstractMap", "isEmpty", "()Z"⟩ : MethodName) jdk_71_method_3_code 1 (some .boolean) [] own_rSZ1 #[(.ref t)] h0 (fun v h L => v = some (.int 0) ∧ L = [] ∧ h = h0) := by
  refine Ctr.intro pn_1 #[.val (.ref t)] (fun m => by first | rfl | (simp [entryFrame, mkF, argsToLocals, Value.category]; done)) ?_
  intro p e s m below meth c T hx hby hml hown hnm hret hlk hZ X eT
  have hown : s.vm.findClass "java/util/AbstractMap" = some m.cls := hown
  have N := Fr.nil n0
  show Gl p e below s _ _ _ (T.setTop (mkF m 0 #[.val (.ref t)] []))
  refine Gl.by (fun t_ k_ => XS.aloadN X.here hx rfl (hb hby d19_0) rfl rfl k_) ?_
  show Gl p e below s _ _ _ (T.setTop (mkF m 1 #[.val (.ref t)] [(.ref t)]))
  refine Gl.virt X hx hZ hown (hw _ (List.mem_of_getElem? (i := 140) rfl)) (hw _ (List.mem_of_getElem? (i := 141) rfl)) (hw _ (List.mem_of_getElem? (i := 143) rfl)) (hw _ (List.mem_of_getElem? (i := 123) rfl)) (nf_of_sel (args := #[]) (mvT hZ (hw _ (List.mem_of_getElem? (i := 135) rfl))) rfl) (by decide) ht.1 (W := 0) (backC (own_size l Z a0 hw t rt sz mc h0 n0 ht) hZ (hw _ (List.mem_of_getElem? (i := 126) rfl)) (hw _ (List.mem_of_getElem? (i := 19) rfl)) (by decide) (by decide)) eT (hb hby d19_1) (by rw [hml]; rfl) [] [] (lenOf pd_16 rfl) rfl rfl (Nat.le_of_eq rfl) (by decide) (by decide) ?_
  intro v T L X hq
  obtain ⟨rfl, rfl, eT⟩ := hq
  have N := Fr.app N (Fr.nil n0)
  show Gl p e below s _ _ _ (T.setTop (mkF m 4 #[.val (.ref t)] [(.int sz)]))
  refine Gl.by (fun t_ k_ => XS.ifYes X.here hx rfl (pc0 := 4) (pc' := 11) rfl (hb hby d19_4) rfl ((if0 _ _).trans (feq hsz).2) (by decide) (by decide) k_) ?_
  show Gl p e below s _ _ _ (T.setTop (mkF m 11 #[.val (.ref t)] []))
  refine Gl.by (fun t_ k_ => XS.iconst X.here hx rfl (hb hby d19_11) k_) ?_
  show Gl p e below s _ _ _ (T.setTop (mkF m 12 #[.val (.ref t)] [(.int (0 : Int32))]))
  exact Gl.retZ X hx hlk hret (by simp) (hb hby d19_12) (by decide) (by decide) ⟨rfl, rfl, eT⟩
set_option maxRecDepth 65536 in
set_option maxHeartbeats 40000000 in
theorem own_cnt (l : Launch) (Z : State) (a0 : Array Value) (hw : ∀ d ∈ tables_1, d.before a0 Z = true) (cv t : Nat) (sz : Int32) (f : Int32 → Option Value) (h0 : Heap) (n0 : Nat) (Fv : Fld Z h0 cv "com/example/hookwright/hookwright/ConstructorArgumentValues" "values" "Ljava/util/Map;" (.ref t)) (hm : Mp Z h0 t sz f) :
    Ctr l Z (⟨"com/example/hookwright/hookwright/ConstructorArgumentValues", "getArgumentCount", "()I"⟩ : MethodName) prog_22_method_5_code 1 (some .int) [] own_rSZ2 #[(.ref cv)] h0 (fun v h L => v = some (.int sz) ∧ L = [] ∧ h = h0) := by
  refine Ctr.intro pn_5 #[.val (.ref cv)] (fun m => by first | rfl | (simp [entryFrame, mkF, argsToLocals, Value.category]; done)) ?_
  intro p e s m below meth c T hx hby hml hown hnm hret hlk hZ X eT
  have hown : s.vm.findClass "com/example/hookwright/hookwright/ConstructorArgumentValues" = some m.cls := hown
  have N := Fr.nil n0
  obtain ⟨rt, mc, ht, hrt, hg⟩ := hm
  show Gl p e below s _ _ _ (T.setTop (mkF m 0 #[.val (.ref cv)] []))
  refine Gl.by (fun t_ k_ => XS.aloadN X.here hx rfl (hb hby d16_0) rfl rfl k_) ?_
  show Gl p e below s _ _ _ (T.setTop (mkF m 1 #[.val (.ref cv)] [(.ref cv)]))
  obtain ⟨T, X, eT, st⟩ := getF X hx hZ hown (host := "") (Or.inl (hw _ (List.mem_of_getElem? (i := 36) rfl))) Via.refl eT Fv (g := (mkF m 1 #[.val (.ref cv)] [(.ref cv)])) rfl rfl (hb hby d16_1)
  refine Gl.by st ?_
  show Gl p e below s _ _ _ (T.setTop (mkF m 4 #[.val (.ref cv)] [(.ref t)]))
  refine Gl.face X hx hZ hown (hw _ (List.mem_of_getElem? (i := 119) rfl)) (hw _ (List.mem_of_getElem? (i := 120) rfl)) (mvT hZ (hw _ (List.mem_of_getElem? (i := 121) rfl))) (hw _ (List.mem_of_getElem? (i := 122) rfl)) (hw _ (List.mem_of_getElem? (i := 123) rfl)) (hw _ (List.mem_of_getElem? (i := 124) rfl)) (hw _ (List.mem_of_getElem? (i := 125) rfl)) (hw _ (List.mem_of_getElem? (i := 51) rfl)) (by decide) ht.1 (W := 0) (backC (own_size l Z a0 hw t rt sz mc h0 n0 ht) hZ (hw _ (List.mem_of_getElem? (i := 126) rfl)) (hw _ (List.mem_of_getElem? (i := 19) rfl)) (by decide) (by decide)) eT (hb hby d16_4) (by rw [hml]; rfl) [] [] (lenOf pd_16 rfl) rfl rfl (Nat.le_of_eq rfl) (by decide) (by decide) ?_
  intro v T L X hq
  obtain ⟨rfl, rfl, eT⟩ := hq
  have N := Fr.app N (Fr.nil n0)
  show Gl p e below s _ _ _ (T.setTop (mkF m 9 #[.val (.ref cv)] [(.int sz)]))
  exact Gl.retI X hx hlk hret (hb hby d16_9) (by decide) (by decide) ⟨rfl, rfl, eT⟩
set_option maxRecDepth 65536 in
set_option maxHeartbeats 40000000 in
theorem own_cie (l : Launch) (Z : State) (a0 : Array Value) (hw : ∀ d ∈ tables_1, d.before a0 Z = true) (cv t : Nat) (sz : Int32) (f : Int32 → Option Value) (h0 : Heap) (n0 : Nat) (Fv : Fld Z h0 cv "com/example/hookwright/hookwright/ConstructorArgumentValues" "values" "Ljava/util/Map;" (.ref t)) (hm : Mp Z h0 t sz f) (hsz : ¬ sz = (0 : Int32)) :
    Ctr l Z (⟨"com/example/hookwright/hookwright/ConstructorArgumentValues", "isEmpty", "()Z"⟩ : MethodName) prog_22_method_6_code 1 (some .boolean) [] own_rSZ2 #[(.ref cv)] h0 (fun v h L => v = some (.int 0) ∧ L = [] ∧ h = h0) := by
  refine Ctr.intro pn_5 #[.val (.ref cv)] (fun m => by first | rfl | (simp [entryFrame, mkF, argsToLocals, Value.category]; done)) ?_
  intro p e s m below meth c T hx hby hml hown hnm hret hlk hZ X eT
  have hown : s.vm.findClass "com/example/hookwright/hookwright/ConstructorArgumentValues" = some m.cls := hown
  have N := Fr.nil n0
  obtain ⟨rt, mc, ht, hrt, hg⟩ := hm
  show Gl p e below s _ _ _ (T.setTop (mkF m 0 #[.val (.ref cv)] []))
  refine Gl.by (fun t_ k_ => XS.aloadN X.here hx rfl (hb hby d18_0) rfl rfl k_) ?_
  show Gl p e below s _ _ _ (T.setTop (mkF m 1 #[.val (.ref cv)] [(.ref cv)]))
  obtain ⟨T, X, eT, st⟩ := getF X hx hZ hown (host := "") (Or.inl (hw _ (List.mem_of_getElem? (i := 36) rfl))) Via.refl eT Fv (g := (mkF m 1 #[.val (.ref cv)] [(.ref cv)])) rfl rfl (hb hby d18_1)
  refine Gl.by st ?_
  show Gl p e below s _ _ _ (T.setTop (mkF m 4 #[.val (.ref cv)] [(.ref t)]))
  refine Gl.face X hx hZ hown (hw _ (List.mem_of_getElem? (i := 132) rfl)) (hw _ (List.mem_of_getElem? (i := 133) rfl)) (mvT hZ (hw _ (List.mem_of_getElem? (i := 134) rfl))) (hw _ (List.mem_of_getElem? (i := 135) rfl)) (hw _ (List.mem_of_getElem? (i := 136) rfl)) (hw _ (List.mem_of_getElem? (i := 137) rfl)) (hw _ (List.mem_of_getElem? (i := 138) rfl)) (hw _ (List.mem_of_getElem? (i := 51) rfl)) (by decide) ht.1 (W := 0) (backC (own_ame l Z a0 hw t rt sz mc h0 n0 ht hsz) hZ (hw _ (List.mem_of_getElem? (i := 139) rfl)) (hw _ (List.mem_of_getElem? (i := 27) rfl)) (by decide) (by decide)) eT (hb hby d18_4) (by rw [hml]; rfl) [] [] (lenOf pd_17 rfl) rfl rfl (Nat.le_of_eq rfl) (by decide) (by decide) ?_
  intro v T L X hq
  obtain ⟨rfl, rfl, eT⟩ := hq
  have N := Fr.app N (Fr.nil n0)
  show Gl p e below s _ _ _ (T.setTop (mkF m 9 #[.val (.ref cv)] [(.int (0 : Int32))]))
  exact Gl.retZ X hx hlk hret (by simp) (hb hby d18_9) (by decide) (by decide) ⟨rfl, rfl, eT⟩
set_option maxRecDepth 65536 in
set_option maxHeartbeats 40000000 in
theorem own_law (l : Launch) (Z : State) (a0 : Array Value) (hw : ∀ d ∈ tables_1, d.before a0 Z = true) (ws : List Jvm.Cond) (p0 p1 p2 p3 p4 p5 : Int32) (h0 : Heap) (n0 : Nat) (Z0 : n0 ≤ h0.size) (C : ICok Z) (O : Old Z n0 h0) :
    Ctr l Z x code maxLocals ret ws room_1 #[(.int p0), (.int p1), (.int p2), (.int p3), (.int p4), (.int p5)] h0 (fun v h L => v = some (.int 1) ∧ Fr n0 L) := by
  refine Ctr.intro pn_7 #[.val (.int p0), .val (.int p1), .val (.int p2), .val (.int p3), .val (.int p4), .val (.int p5), .unset, .unset, .unset, .unset, .unset, .unset, .unset, .unset, .unset, .unset, .unset, .unset] (fun m => by first | rfl | (simp [entryFrame, mkF, argsToLocals, Value.category, maxLocals]; done)) ?_
  intro p e s m below meth c T hx hby hml hown hnm hret hlk hZ X eT
  have hown : s.vm.findClass "com/example/hookwright/hookwright/ConstructorArgumentValuesAddIndexedArgumentValuePinLaw" = some m.cls := hown
  have N := Fr.nil n0
  have j219 : ∀ (g0 : Heap) (d1 d2 se kq sm sz : Int32) (cv t : Nat) (xh : Int32) (va vb xi xk : Value) (f : Int32 → Option Value) (T : State) (locs : List Loc) (_ : Stand p l e room_1 s m #[(.int p0), (.int p1), (.int p2), (.int p3), (.int p4), (.int p5)] below meth c T locs 9 40) (_ : Fr n0 locs) (_ : T.heap = g0) (_ : va.isRef = true) (_ : vb.isRef = true) (_ : xi.isRef = true) (_ : xk.isRef = true) (_ : Old Z n0 g0) (_ : n0 ≤ g0.size) (_ : Exa Z g0 cv "com/example/hookwright/hookwright/ConstructorArgumentValues") (_ : Fld Z g0 cv "com/example/hookwright/hookwright/ConstructorArgumentValues" "values" "Ljava/util/Map;" (.ref t)) (_ : Mp Z g0 t sz f) (_ : ¬ sz = (0 : Int32)) (_ : (f d1).getD .null = xi) (_ : (f d2).getD .null = vb) (_ : (f kq).getD .null = xk) (_ : (if (f kq).isSome = true then (1 : Int32) else 0) = xh), Gl p e below s room_1.cells room_1.slots (fun v h L => v = some (.int 1) ∧ Fr n0 L) (T.setTop (mkF m 219 #[.val (.int p0), .val (.int p1), .val (.int p2), .val (.int p3), .val (.int p4), .val (.int p5), .val (.int d1), .val (.int d2), .val (.int se), .val (.int kq), .val va, .val vb, .val (.ref cv), .val (.int sm), .val xi, .val xk, .val (.int xh), .val (.int sz)] [])) := by
    intro g0 d1 d2 se kq sm sz cv t xh va vb xi xk f T locs X N eT hva hvb hxi hxk O Z1 Ec Fv hm hsz e1 e2 e3 e4
    refine Gl.by (fun t_ k_ => XS.aload X.here hx rfl (hb hby at_219) rfl rfl k_) ?_
    show Gl p e below s room_1.cells room_1.slots (fun v h L => v = some (.int 1) ∧ Fr n0 L) (T.setTop (mkF m 221 #[.val (.int p0), .val (.int p1), .val (.int p2), .val (.int p3), .val (.int p4), .val (.int p5), .val (.int d1), .val (.int d2), .val (.int se), .val (.int kq), .val va, .val vb, .val (.ref cv), .val (.int sm), .val xi, .val xk, .val (.int xh), .val (.int sz)] [(.ref cv)]))
    refine Gl.virt X hx hZ hown (hw _ (List.mem_of_getElem? (i := 114) rfl)) (hw _ (List.mem_of_getElem? (i := 115) rfl)) (hw _ (List.mem_of_getElem? (i := 117) rfl)) (hw _ (List.mem_of_getElem? (i := 116) rfl)) (notFace_of_selects (args := #[]) (mvT hZ (hw _ (List.mem_of_getElem? (i := 117) rfl)))) (by decide) Ec (W := 0) (backC (own_cnt l Z a0 hw cv t sz f g0 n0 Fv hm) hZ (hw _ (List.mem_of_getElem? (i := 118) rfl)) (hw _ (List.mem_of_getElem? (i := 10) rfl)) (by decide) (by decide)) eT (hb hby at_221) (by rw [hml]; rfl) [] [] (lenOf pd_16 rfl) rfl rfl (Nat.le_of_eq rfl) (by decide) (by decide) ?_
    intro v T L X hq
    obtain ⟨rfl, rfl, eT⟩ := hq
    have N := Fr.app N (Fr.nil n0)
    show Gl p e below s room_1.cells room_1.slots (fun v h L => v = some (.int 1) ∧ Fr n0 L) (T.setTop (mkF m 224 #[.val (.int p0), .val (.int p1), .val (.int p2), .val (.int p3), .val (.int p4), .val (.int p5), .val (.int d1), .val (.int d2), .val (.int se), .val (.int kq), .val va, .val vb, .val (.ref cv), .val (.int sm), .val xi, .val xk, .val (.int xh), .val (.int sz)] [(.int sz)]))
    refine Gl.by (fun t_ k_ => XS.iload X.here hx rfl (hb hby at_224) rfl k_) ?_
    show Gl p e below s room_1.cells room_1.slots (fun v h L => v = some (.int 1) ∧ Fr n0 L) (T.setTop (mkF m 226 #[.val (.int p0), .val (.int p1), .val (.int p2), .val (.int p3), .val (.int p4), .val (.int p5), .val (.int d1), .val (.int d2), .val (.int se), .val (.int kq), .val va, .val vb, .val (.ref cv), .val (.int sm), .val xi, .val xk, .val (.int xh), .val (.int sz)] [(.int sz), (.int sz)]))
    refine Gl.by (fun t_ k_ => XS.icmpNo X.here hx rfl (hb hby at_226) rfl (teq (rfl : sz = sz)).2 k_) ?_
    show Gl p e below s room_1.cells room_1.slots (fun v h L => v = some (.int 1) ∧ Fr n0 L) (T.setTop (mkF m 229 #[.val (.int p0), .val (.int p1), .val (.int p2), .val (.int p3), .val (.int p4), .val (.int p5), .val (.int d1), .val (.int d2), .val (.int se), .val (.int kq), .val va, .val vb, .val (.ref cv), .val (.int sm), .val xi, .val xk, .val (.int xh), .val (.int sz)] []))
    refine Gl.by (fun t_ k_ => XS.aload X.here hx rfl (hb hby at_229) rfl rfl k_) ?_
    show Gl p e below s room_1.cells room_1.slots (fun v h L => v = some (.int 1) ∧ Fr n0 L) (T.setTop (mkF m 231 #[.val (.int p0), .val (.int p1), .val (.int p2), .val (.int p3), .val (.int p4), .val (.int p5), .val (.int d1), .val (.int d2), .val (.int se), .val (.int kq), .val va, .val vb, .val (.ref cv), .val (.int sm), .val xi, .val xk, .val (.int xh), .val (.int sz)] [(.ref cv)]))
    refine Gl.virt X hx hZ hown (hw _ (List.mem_of_getElem? (i := 127) rfl)) (hw _ (List.mem_of_getElem? (i := 128) rfl)) (hw _ (List.mem_of_getElem? (i := 130) rfl)) (hw _ (List.mem_of_getElem? (i := 129) rfl)) (notFace_of_selects (args := #[]) (mvT hZ (hw _ (List.mem_of_getElem? (i := 130) rfl)))) (by decide) Ec (W := 0) (backC (own_cie l Z a0 hw cv t sz f g0 n0 Fv hm hsz) hZ (hw _ (List.mem_of_getElem? (i := 131) rfl)) (hw _ (List.mem_of_getElem? (i := 10) rfl)) (by decide) (by decide)) eT (hb hby at_231) (by rw [hml]; rfl) [] [] (lenOf pd_17 rfl) rfl rfl (Nat.le_of_eq rfl) (by decide) (by decide) ?_
    intro v T L X hq
    obtain ⟨rfl, rfl, eT⟩ := hq
    have N := Fr.app N (Fr.nil n0)
    show Gl p e below s room_1.cells room_1.slots (fun v h L => v = some (.int 1) ∧ Fr n0 L) (T.setTop (mkF m 234 #[.val (.int p0), .val (.int p1), .val (.int p2), .val (.int p3), .val (.int p4), .val (.int p5), .val (.int d1), .val (.int d2), .val (.int se), .val (.int kq), .val va, .val vb, .val (.ref cv), .val (.int sm), .val xi, .val xk, .val (.int xh), .val (.int sz)] [(.int (0 : Int32))]))
    refine Gl.by (fun t_ k_ => XS.ifNo X.here hx rfl (hb hby at_234) rfl ((if0 _ _).trans (teq (rfl : (0 : Int32) = 0)).2) k_) ?_
    show Gl p e below s room_1.cells room_1.slots (fun v h L => v = some (.int 1) ∧ Fr n0 L) (T.setTop (mkF m 237 #[.val (.int p0), .val (.int p1), .val (.int p2), .val (.int p3), .val (.int p4), .val (.int p5), .val (.int d1), .val (.int d2), .val (.int se), .val (.int kq), .val va, .val vb, .val (.ref cv), .val (.int sm), .val xi, .val xk, .val (.int xh), .val (.int sz)] []))
    refine Gl.by (fun t_ k_ => XS.aload X.here hx rfl (hb hby at_237) rfl rfl k_) ?_
    show Gl p e below s room_1.cells room_1.slots (fun v h L => v = some (.int 1) ∧ Fr n0 L) (T.setTop (mkF m 239 #[.val (.int p0), .val (.int p1), .val (.int p2), .val (.int p3), .val (.int p4), .val (.int p5), .val (.int d1), .val (.int d2), .val (.int se), .val (.int kq), .val va, .val vb, .val (.ref cv), .val (.int sm), .val xi, .val xk, .val (.int xh), .val (.int sz)] [(.ref cv)]))
    refine Gl.by (fun t_ k_ => XS.iload X.here hx rfl (hb hby at_239) rfl k_) ?_
    show Gl p e below s room_1.cells room_1.slots (fun v h L => v = some (.int 1) ∧ Fr n0 L) (T.setTop (mkF m 241 #[.val (.int p0), .val (.int p1), .val (.int p2), .val (.int p3), .val (.int p4), .val (.int p5), .val (.int d1), .val (.int d2), .val (.int se), .val (.int kq), .val va, .val vb, .val (.ref cv), .val (.int sm), .val xi, .val xk, .val (.int xh), .val (.int sz)] [(.int d1), (.ref cv)]))
    have O1 := O
    have Fv1 := Fv
    refine Gl.virt X hx hZ hown (hw _ (List.mem_of_getElem? (i := 144) rfl)) (hw _ (List.mem_of_getElem? (i := 145) rfl)) (hw _ (List.mem_of_getElem? (i := 147) rfl)) (hw _ (List.mem_of_getElem? (i := 146) rfl)) (notFace_of_selects (args := #[]) (mvT hZ (hw _ (List.mem_of_getElem? (i := 147) rfl)))) (by decide) Ec (W := 0) (backC (own_geti l Z a0 hw cv t d1 sz f g0 n0 (by omega) C O1 Fv1 hm) hZ (hw _ (List.mem_of_getElem? (i := 148) rfl)) (hw _ (List.mem_of_getElem? (i := 10) rfl)) (by decide) (by decide)) eT (hb hby at_241) (by rw [hml]; rfl) [(.int d1)] [] (lenOf pd_18 rfl) rfl rfl (Nat.le_of_eq rfl) (by decide) (by decide) ?_
    intro v T L X hq
    obtain ⟨⟨rfl, hr1⟩, NQ, K1⟩ := hq
    have N := Fr.app N NQ
    obtain ⟨h1, eT⟩ : ∃ z, T.heap = z := ⟨_, rfl⟩
    rw [eT] at K1
    have sz1 := K1.1
    show Gl p e below s room_1.cells room_1.slots (fun v h L => v = some (.int 1) ∧ Fr n0 L) (T.setTop (mkF m 244 #[.val (.int p0), .val (.int p1), .val (.int p2), .val (.int p3), .val (.int p4), .val (.int p5), .val (.int d1), .val (.int d2), .val (.int se), .val (.int kq), .val va, .val vb, .val (.ref cv), .val (.int sm), .val xi, .val xk, .val (.int xh), .val (.int sz)] [((f d1).getD .null)]))
    have hm1 := hm.keep0 K1
    refine Gl.by (fun t_ k_ => XS.aload X.here hx rfl (hb hby at_244) rfl hxi k_) ?_
    show Gl p e below s room_1.cells room_1.slots (fun v h L => v = some (.int 1) ∧ Fr n0 L) (T.setTop (mkF m 246 #[.val (.int p0), .val (.int p1), .val (.int p2), .val (.int p3), .val (.int p4), .val (.int p5), .val (.int d1), .val (.int d2), .val (.int se), .val (.int kq), .val va, .val vb, .val (.ref cv), .val (.int sm), .val xi, .val xk, .val (.int xh), .val (.int sz)] [xi, ((f d1).getD .null)]))
    refine Gl.by (fun t_ k_ => Jvm.RoadKit.acmp (g := (mkF m 246 #[.val (.int p0), .val (.int p1), .val (.int p2), .val (.int p3), .val (.int p4), .val (.int p5), .val (.int d1), .val (.int d2), .val (.int se), .val (.int kq), .val va, .val vb, .val (.ref cv), .val (.int sm), .val xi, .val xk, .val (.int xh), .val (.int sz)] [xi, ((f d1).getD .null)])) X hx rfl hr1 hxi (pc0 := 246) (pc' := 249) (same := true) rfl (hb hby at_246) rfl (decide_eq_true e1) (by decide) (by decide) k_) ?_
    show Gl p e below s room_1.cells room_1.slots (fun v h L => v = some (.int 1) ∧ Fr n0 L) (T.setTop (mkF m 249 #[.val (.int p0), .val (.int p1), .val (.int p2), .val (.int p3), .val (.int p4), .val (.int p5), .val (.int d1), .val (.int d2), .val (.int se), .val (.int kq), .val va, .val vb, .val (.ref cv), .val (.int sm), .val xi, .val xk, .val (.int xh), .val (.int sz)] []))
    refine Gl.by (fun t_ k_ => XS.aload X.here hx rfl (hb hby at_249) rfl rfl k_) ?_
    show Gl p e below s room_1.cells room_1.slots (fun v h L => v = some (.int 1) ∧ Fr n0 L) (T.setTop (mkF m 251 #[.val (.int p0), .val (.int p1), .val (.int p2), .val (.int p3), .val (.int p4), .val (.int p5), .val (.int d1), .val (.int d2), .val (.int se), .val (.int kq), .val va, .val vb, .val (.ref cv), .val (.int sm), .val xi, .val xk, .val (.int xh), .val (.int sz)] [(.ref cv)]))
    refine Gl.by (fun t_ k_ => XS.iload X.here hx rfl (hb hby at_251) rfl k_) ?_
    show Gl p e below s room_1.cells room_1.slots (fun v h L => v = some (.int 1) ∧ Fr n0 L) (T.setTop (mkF m 253 #[.val (.int p0), .val (.int p1), .val (.int p2), .val (.int p3), .val (.int p4), .val (.int p5), .val (.int d1), .val (.int d2), .val (.int se), .val (.int kq), .val va, .val vb, .val (.ref cv), .val (.int sm), .val xi, .val xk, .val (.int xh), .val (.int sz)] [(.int d2), (.ref cv)]))
    have O2 := (O1.keep K1 all0)
    have Fv2 := (Fv1.keep K1 nin0)
    refine Gl.virt X hx hZ hown (hw _ (List.mem_of_getElem? (i := 144) rfl)) (hw _ (List.mem_of_getElem? (i := 145) rfl)) (hw _ (List.mem_of_getElem? (i := 147) rfl)) (hw _ (List.mem_of_getElem? (i := 146) rfl)) (notFace_of_selects (args := #[]) (mvT hZ (hw _ (List.mem_of_getElem? (i := 147) rfl)))) (by decide) (Ec.keep K1) (W := 0) (backC (own_geti l Z a0 hw cv t d2 sz f h1 n0 (by omega) C O2 Fv2 hm1) hZ (hw _ (List.mem_of_getElem? (i := 148) rfl)) (hw _ (List.mem_of_getElem? (i := 10) rfl)) (by decide) (by decide)) eT (hb hby at_253) (by rw [hml]; rfl) [(.int d2)] [] (lenOf pd_18 rfl) rfl rfl (Nat.le_of_eq rfl) (by decide) (by decide) ?_
    intro v T L X hq
    obtain ⟨⟨rfl, hr2⟩, NQ, K2⟩ := hq
    have N := Fr.app N NQ
    obtain ⟨h2, eT⟩ : ∃ z, T.heap = z := ⟨_, rfl⟩
    rw [eT] at K2
    have sz2 := K2.1
    show Gl p e below s room_1.cells room_1.slots (fun v h L => v = some (.int 1) ∧ Fr n0 L) (T.setTop (mkF m 256 #[.val (.int p0), .val (.int p1), .val (.int p2), .val (.int p3), .val (.int p4), .val (.int p5), .val (.int d1), .val (.int d2), .val (.int se), .val (.int kq), .val va, .val vb, .val (.ref cv), .val (.int sm), .val xi, .val xk, .val (.int xh), .val (.int sz)] [((f d2).getD .null)]))
    have hm2 := hm1.keep0 K2
    refine Gl.by (fun t_ k_ => XS.aload X.here hx rfl (hb hby at_256) rfl hvb k_) ?_
    show Gl p e below s room_1.cells room_1.slots (fun v h L => v = some (.int 1) ∧ Fr n0 L) (T.setTop (mkF m 258 #[.val (.int p0), .val (.int p1), .val (.int p2), .val (.int p3), .val (.int p4), .val (.int p5), .val (.int d1), .val (.int d2), .val (.int se), .val (.int kq), .val va, .val vb, .val (.ref cv), .val (.int sm), .val xi, .val xk, .val (.int xh), .val (.int sz)] [vb, ((f d2).getD .null)]))
    refine Gl.by (fun t_ k_ => Jvm.RoadKit.acmp (g := (mkF m 258 #[.val (.int p0), .val (.int p1), .val (.int p2), .val (.int p3), .val (.int p4), .val (.int p5), .val (.int d1), .val (.int d2), .val (.int se), .val (.int kq), .val va, .val vb, .val (.ref cv), .val (.int sm), .val xi, .val xk, .val (.int xh), .val (.int sz)] [vb, ((f d2).getD .null)])) X hx rfl hr2 hvb (pc0 := 258) (pc' := 261) (same := true) rfl (hb hby at_258) rfl (decide_eq_true e2) (by decide) (by decide) k_) ?_
    show Gl p e below s room_1.cells room_1.slots (fun v h L => v = some (.int 1) ∧ Fr n0 L) (T.setTop (mkF m 261 #[.val (.int p0), .val (.int p1), .val (.int p2), .val (.int p3), .val (.int p4), .val (.int p5), .val (.int d1), .val (.int d2), .val (.int se), .val (.int kq), .val va, .val vb, .val (.ref cv), .val (.int sm), .val xi, .val xk, .val (.int xh), .val (.int sz)] []))
    refine Gl.by (fun t_ k_ => XS.aload X.here hx rfl (hb hby at_261) rfl rfl k_) ?_
    show Gl p e below s room_1.cells room_1.slots (fun v h L => v = some (.int 1) ∧ Fr n0 L) (T.setTop (mkF m 263 #[.val (.int p0), .val (.int p1), .val (.int p2), .val (.int p3), .val (.int p4), .val (.int p5), .val (.int d1), .val (.int d2), .val (.int se), .val (.int kq), .val va, .val vb, .val (.ref cv), .val (.int sm), .val xi, .val xk, .val (.int xh), .val (.int sz)] [(.ref cv)]))
    refine Gl.by (fun t_ k_ => XS.iload X.here hx rfl (hb hby at_263) rfl k_) ?_
    show Gl p e below s room_1.cells room_1.slots (fun v h L => v = some (.int 1) ∧ Fr n0 L) (T.setTop (mkF m 265 #[.val (.int p0), .val (.int p1), .val (.int p2), .val (.int p3), .val (.int p4), .val (.int p5), .val (.int d1), .val (.int d2), .val (.int se), .val (.int kq), .val va, .val vb, .val (.ref cv), .val (.int sm), .val xi, .val xk, .val (.int xh), .val (.int sz)] [(.int kq), (.ref cv)]))
    have O3 := (O2.keep K2 all0)
    have Fv3 := (Fv2.keep K2 nin0)
    refine Gl.virt X hx hZ hown (hw _ (List.mem_of_getElem? (i := 162) rfl)) (hw _ (List.mem_of_getElem? (i := 163) rfl)) (hw _ (List.mem_of_getElem? (i := 165) rfl)) (hw _ (List.mem_of_getElem? (i := 164) rfl)) (notFace_of_selects (args := #[]) (mvT hZ (hw _ (List.mem_of_getElem? (i := 165) rfl)))) (by decide) ((Ec.keep K1).keep K2) (W := 0) (backC (own_hasi l Z a0 hw cv t kq sz f h2 n0 (by omega) C O3 Fv3 hm2) hZ (hw _ (List.mem_of_getElem? (i := 166) rfl)) (hw _ (List.mem_of_getElem? (i := 10) rfl)) (by decide) (by decide)) eT (hb hby at_265) (by rw [hml]; rfl) [(.int kq)] [] (lenOf pd_19 rfl) rfl rfl (Nat.le_of_eq rfl) (by decide) (by decide) ?_
    intro v T L X hq
    obtain ⟨rfl, NQ, K3⟩ := hq
    have N := Fr.app N NQ
    obtain ⟨h3, eT⟩ : ∃ z, T.heap = z := ⟨_, rfl⟩
    rw [eT] at K3
    have sz3 := K3.1
    show Gl p e below s room_1.cells room_1.slots (fun v h L => v = some (.int 1) ∧ Fr n0 L) (T.setTop (mkF m 268 #[.val (.int p0), .val (.int p1), .val (.int p2), .val (.int p3), .val (.int p4), .val (.int p5), .val (.int d1), .val (.int d2), .val (.int se), .val (.int kq), .val va, .val vb, .val (.ref cv), .val (.int sm), .val xi, .val xk, .val (.int xh), .val (.int sz)] [(.int (if (f kq).isSome = true then 1 else 0))]))
    have hm3 := hm2.keep0 K3
    refine Gl.by (fun t_ k_ => XS.iload X.here hx rfl (hb hby at_268) rfl k_) ?_
    show Gl p e below s room_1.cells room_1.slots (fun v h L => v = some (.int 1) ∧ Fr n0 L) (T.setTop (mkF m 270 #[.val (.int p0), .val (.int p1), .val (.int p2), .val (.int p3), .val (.int p4), .val (.int p5), .val (.int d1), .val (.int d2), .val (.int se), .val (.int kq), .val va, .val vb, .val (.ref cv), .val (.int sm), .val xi, .val xk, .val (.int xh), .val (.int sz)] [(.int xh), (.int (if (f kq).isSome = true then 1 else 0))]))
    refine Gl.by (fun t_ k_ => XS.icmpNo X.here hx rfl (hb hby at_270) rfl (teq e4).2 k_) ?_
    show Gl p e below s room_1.cells room_1.slots (fun v h L => v = some (.int 1) ∧ Fr n0 L) (T.setTop (mkF m 273 #[.val (.int p0), .val (.int p1), .val (.int p2), .val (.int p3), .val (.int p4), .val (.int p5), .val (.int d1), .val (.int d2), .val (.int se), .val (.int kq), .val va, .val vb, .val (.ref cv), .val (.int sm), .val xi, .val xk, .val (.int xh), .val (.int sz)] []))
    refine Gl.by (fun t_ k_ => XS.aload X.here hx rfl (hb hby at_273) rfl rfl k_) ?_
    show Gl p e below s room_1.cells room_1.slots (fun v h L => v = some (.int 1) ∧ Fr n0 L) (T.setTop (mkF m 275 #[.val (.int p0), .val (.int p1), .val (.int p2), .val (.int p3), .val (.int p4), .val (.int p5), .val (.int d1), .val (.int d2), .val (.int se), .val (.int kq), .val va, .val vb, .val (.ref cv), .val (.int sm), .val xi, .val xk, .val (.int xh), .val (.int sz)] [(.ref cv)]))
    refine Gl.by (fun t_ k_ => XS.iload X.here hx rfl (hb hby at_275) rfl k_) ?_
    show Gl p e below s room_1.cells room_1.slots (fun v h L => v = some (.int 1) ∧ Fr n0 L) (T.setTop (mkF m 277 #[.val (.int p0), .val (.int p1), .val (.int p2), .val (.int p3), .val (.int p4), .val (.int p5), .val (.int d1), .val (.int d2), .val (.int se), .val (.int kq), .val va, .val vb, .val (.ref cv), .val (.int sm), .val xi, .val xk, .val (.int xh), .val (.int sz)] [(.int kq), (.ref cv)]))
    have O4 := (O3.keep K3 all0)
    have Fv4 := (Fv3.keep K3 nin0)
    refine Gl.virt X hx hZ hown (hw _ (List.mem_of_getElem? (i := 144) rfl)) (hw _ (List.mem_of_getElem? (i := 145) rfl)) (hw _ (List.mem_of_getElem? (i := 147) rfl)) (hw _ (List.mem_of_getElem? (i := 146) rfl)) (notFace_of_selects (args := #[]) (mvT hZ (hw _ (List.mem_of_getElem? (i := 147) rfl)))) (by decide) (((Ec.keep K1).keep K2).keep K3) (W := 0) (backC (own_geti l Z a0 hw cv t kq sz f h3 n0 (by omega) C O4 Fv4 hm3) hZ (hw _ (List.mem_of_getElem? (i := 148) rfl)) (hw _ (List.mem_of_getElem? (i := 10) rfl)) (by decide) (by decide)) eT (hb hby at_277) (by rw [hml]; rfl) [(.int kq)] [] (lenOf pd_18 rfl) rfl rfl (Nat.le_of_eq rfl) (by decide) (by decide) ?_
    intro v T L X hq
    obtain ⟨⟨rfl, hr4⟩, NQ, K4⟩ := hq
    have N := Fr.app N NQ
    obtain ⟨h4, eT⟩ : ∃ z, T.heap = z := ⟨_, rfl⟩
    rw [eT] at K4
    have sz4 := K4.1
    show Gl p e below s room_1.cells room_1.slots (fun v h L => v = some (.int 1) ∧ Fr n0 L) (T.setTop (mkF m 280 #[.val (.int p0), .val (.int p1), .val (.int p2), .val (.int p3), .val (.int p4), .val (.int p5), .val (.int d1), .val (.int d2), .val (.int se), .val (.int kq), .val va, .val vb, .val (.ref cv), .val (.int sm), .val xi, .val xk, .val (.int xh), .val (.int sz)] [((f kq).getD .null)]))
    have hm4 := hm3.keep0 K4
    refine Gl.by (fun t_ k_ => XS.aload X.here hx rfl (hb hby at_280) rfl hxk k_) ?_
    show Gl p e below s room_1.cells room_1.slots (fun v h L => v = some (.int 1) ∧ Fr n0 L) (T.setTop (mkF m 282 #[.val (.int p0), .val (.int p1), .val (.int p2), .val (.int p3), .val (.int p4), .val (.int p5), .val (.int d1), .val (.int d2), .val (.int se), .val (.int kq), .val va, .val vb, .val (.ref cv), .val (.int sm), .val xi, .val xk, .val (.int xh), .val (.int sz)] [xk, ((f kq).getD .null)]))
    refine Gl.by (fun t_ k_ => Jvm.RoadKit.acmp (g := (mkF m 282 #[.val (.int p0), .val (.int p1), .val (.int p2), .val (.int p3), .val (.int p4), .val (.int p5), .val (.int d1), .val (.int d2), .val (.int se), .val (.int kq), .val va, .val vb, .val (.ref cv), .val (.int sm), .val xi, .val xk, .val (.int xh), .val (.int sz)] [xk, ((f kq).getD .null)])) X hx rfl hr4 hxk (pc0 := 282) (pc' := 285) (same := true) rfl (hb hby at_282) rfl (decide_eq_true e3) (by decide) (by decide) k_) ?_
    show Gl p e below s room_1.cells room_1.slots (fun v h L => v = some (.int 1) ∧ Fr n0 L) (T.setTop (mkF m 285 #[.val (.int p0), .val (.int p1), .val (.int p2), .val (.int p3), .val (.int p4), .val (.int p5), .val (.int d1), .val (.int d2), .val (.int se), .val (.int kq), .val va, .val vb, .val (.ref cv), .val (.int sm), .val xi, .val xk, .val (.int xh), .val (.int sz)] []))
    refine Gl.by (fun t_ k_ => XS.iconst X.here hx rfl (hb hby at_285) k_) ?_
    show Gl p e below s room_1.cells room_1.slots (fun v h L => v = some (.int 1) ∧ Fr n0 L) (T.setTop (mkF m 286 #[.val (.int p0), .val (.int p1), .val (.int p2), .val (.int p3), .val (.int p4), .val (.int p5), .val (.int d1), .val (.int d2), .val (.int se), .val (.int kq), .val va, .val vb, .val (.ref cv), .val (.int sm), .val xi, .val xk, .val (.int xh), .val (.int sz)] [(.int (1 : Int32))]))
    refine Gl.by (fun t_ k_ => XS.goto X.here hx rfl (pc0 := 286) (pc' := 290) rfl (hb hby at_286) (by decide) (by decide) k_) ?_
    show Gl p e below s room_1.cells room_1.slots (fun v h L => v = some (.int 1) ∧ Fr n0 L) (T.setTop (mkF m 290 #[.val (.int p0), .val (.int p1), .val (.int p2), .val (.int p3), .val (.int p4), .val (.int p5), .val (.int d1), .val (.int d2), .val (.int se), .val (.int kq), .val va, .val vb, .val (.ref cv), .val (.int sm), .val xi, .val xk, .val (.int xh), .val (.int sz)] [(.int (1 : Int32))]))
    exact Gl.retZ X hx hlk hret (by simp) (hb hby at_290) (by decide) (by decide) ⟨rfl, N⟩
  have j100 : ∀ (g0 : Heap) (d1 d2 se kq : Int32) (va vb : Value) (T : State) (locs : List Loc) (_ : Stand p l e room_1 s m #[(.int p0), (.int p1), (.int p2), (.int p3), (.int p4), (.int p5)] below meth c T locs 2 2) (_ : Fr n0 locs) (_ : T.heap = g0) (_ : va.isRef = true) (_ : vb.isRef = true) (_ : Old Z n0 g0) (_ : n0 ≤ g0.size) (_ : ¬ d1 < 0) (_ : ¬ d2 < 0), Gl p e below s room_1.cells room_1.slots (fun v h L => v = some (.int 1) ∧ Fr n0 L) (T.setTop (mkF m 100 #[.val (.int p0), .val (.int p1), .val (.int p2), .val (.int p3), .val (.int p4), .val (.int p5), .val (.int d1), .val (.int d2), .val (.int se), .val (.int kq), .val va, .val vb, .unset, .unset, .unset, .unset, .unset, .unset] [])) := by
    intro g0 d1 d2 se kq va vb T locs X N eT hva hvb O Z1 n1 n2
    obtain ⟨T, h5, X, eT, E5, A5, D5, -, st⟩ := newO X hx hZ hown (hw _ (List.mem_of_getElem? (i := 8) rfl)) (hw _ (List.mem_of_getElem? (i := 9) rfl)) (hw _ (List.mem_of_getElem? (i := 10) rfl)) eT (g := (mkF m 100 #[.val (.int p0), .val (.int p1), .val (.int p2), .val (.int p3), .val (.int p4), .val (.int p5), .val (.int d1), .val (.int d2), .val (.int se), .val (.int kq), .val va, .val vb, .unset, .unset, .unset, .unset, .unset, .unset] [])) rfl (hb hby at_100) (by decide) (by decide)
    obtain ⟨cv, g5⟩ : ∃ z, z = g0.size := ⟨_, rfl⟩
    rw [← g5] at A5 D5 st
    have sz5 := E5.1
    have lt5 : cv < h5.size := A5.lt
    refine Gl.by st ?_
    have F5_values : Fld Z h5 cv "com/example/hookwright/hookwright/ConstructorArgumentValues" "values" "Ljava/util/Map;" .null := D5 (Or.inr (hw _ (List.mem_of_getElem? (i := 37) rfl))) (ty := (.object "java/util/Map")) (by decide)
    show Gl p e below s room_1.cells room_1.slots (fun v h L => v = some (.int 1) ∧ Fr n0 L) (T.setTop (mkF m 103 #[.val (.int p0), .val (.int p1), .val (.int p2), .val (.int p3), .val (.int p4), .val (.int p5), .val (.int d1), .val (.int d2), .val (.int se), .val (.int kq), .val va, .val vb, .unset, .unset, .unset, .unset, .unset, .unset] [(.ref cv)]))
    refine Gl.by (fun t_ k_ => XS.dup X.here hx rfl (hb hby at_103) rfl rfl k_) ?_
    show Gl p e below s room_1.cells room_1.slots (fun v h L => v = some (.int 1) ∧ Fr n0 L) (T.setTop (mkF m 104 #[.val (.int p0), .val (.int p1), .val (.int p2), .val (.int p3), .val (.int p4), .val (.int p5), .val (.int d1), .val (.int d2), .val (.int se), .val (.int kq), .val va, .val vb, .unset, .unset, .unset, .unset, .unset, .unset] [(.ref cv), (.ref cv)]))
    refine Gl.spec X hx hZ rfl hown (hw _ (List.mem_of_getElem? (i := 11) rfl)) (hw _ (List.mem_of_getElem? (i := 12) rfl)) (hw _ (List.mem_of_getElem? (i := 13) rfl)) (by decide) (W := 1) (backC (own_cavi l Z a0 hw cv h5 n0 (by omega) (by omega) A5 F5_values) hZ (hw _ (List.mem_of_getElem? (i := 13) rfl)) (hw _ (List.mem_of_getElem? (i := 10) rfl)) (by decide) (by decide)) eT (hb hby at_104) (by rw [hml]; rfl) cv [] [(.ref cv)] (lenOf pd_0 rfl) rfl rfl (Nat.le_of_eq rfl) (by decide) (by decide) ?_
    intro v T L X hq
    obtain ⟨rfl, NQ, K6, t, gt, E6, Fv6, F6⟩ := hq
    have N := Fr.app N NQ
    obtain ⟨h6, eT⟩ : ∃ z, T.heap = z := ⟨_, rfl⟩
    rw [eT] at K6 E6 Fv6 F6
    have sz6 := K6.1
    show Gl p e below s room_1.cells room_1.slots (fun v h L => v = some (.int 1) ∧ Fr n0 L) (T.setTop (mkF m 107 #[.val (.int p0), .val (.int p1), .val (.int p2), .val (.int p3), .val (.int p4), .val (.int p5), .val (.int d1), .val (.int d2), .val (.int se), .val (.int kq), .val va, .val vb, .unset, .unset, .unset, .unset, .unset, .unset] [(.ref cv)]))
    have lt : t < h6.size := F6.1.lt
    refine Gl.by (fun t_ k_ => XS.astore X.here hx rfl (hb hby at_107) rfl rfl (l' := #[.val (.int p0), .val (.int p1), .val (.int p2), .val (.int p3), .val (.int p4), .val (.int p5), .val (.int d1), .val (.int d2), .val (.int se), .val (.int kq), .val va, .val vb, .val (.ref cv), .unset, .unset, .unset, .unset, .unset]) rfl k_) ?_
    show Gl p e below s room_1.cells room_1.slots (fun v h L => v = some (.int 1) ∧ Fr n0 L) (T.setTop (mkF m 109 #[.val (.int p0), .val (.int p1), .val (.int p2), .val (.int p3), .val (.int p4), .val (.int p5), .val (.int d1), .val (.int d2), .val (.int se), .val (.int kq), .val va, .val vb, .val (.ref cv), .unset, .unset, .unset, .unset, .unset] []))
    refine Gl.by (fun t_ k_ => XS.aload X.here hx rfl (hb hby at_109) rfl rfl k_) ?_
    show Gl p e below s room_1.cells room_1.slots (fun v h L => v = some (.int 1) ∧ Fr n0 L) (T.setTop (mkF m 111 #[.val (.int p0), .val (.int p1), .val (.int p2), .val (.int p3), .val (.int p4), .val (.int p5), .val (.int d1), .val (.int d2), .val (.int se), .val (.int kq), .val va, .val vb, .val (.ref cv), .unset, .unset, .unset, .unset, .unset] [(.ref cv)]))
    refine Gl.by (fun t_ k_ => XS.iload X.here hx rfl (hb hby at_111) rfl k_) ?_
    show Gl p e below s room_1.cells room_1.slots (fun v h L => v = some (.int 1) ∧ Fr n0 L) (T.setTop (mkF m 113 #[.val (.int p0), .val (.int p1), .val (.int p2), .val (.int p3), .val (.int p4), .val (.int p5), .val (.int d1), .val (.int d2), .val (.int se), .val (.int kq), .val va, .val vb, .val (.ref cv), .unset, .unset, .unset, .unset, .unset] [(.int d1), (.ref cv)]))
    refine Gl.by (fun t_ k_ => XS.aload X.here hx rfl (hb hby at_113) rfl hva k_) ?_
    show Gl p e below s room_1.cells room_1.slots (fun v h L => v = some (.int 1) ∧ Fr n0 L) (T.setTop (mkF m 115 #[.val (.int p0), .val (.int p1), .val (.int p2), .val (.int p3), .val (.int p4), .val (.int p5), .val (.int d1), .val (.int d2), .val (.int se), .val (.int kq), .val va, .val vb, .val (.ref cv), .unset, .unset, .unset, .unset, .unset] [va, (.int d1), (.ref cv)]))
    have O1 := ((O.ext E5).keep K6 (allS (by omega) all0))
    refine Gl.virt X hx hZ hown (hw _ (List.mem_of_getElem? (i := 38) rfl)) (hw _ (List.mem_of_getElem? (i := 39) rfl)) (hw _ (List.mem_of_getElem? (i := 41) rfl)) (hw _ (List.mem_of_getElem? (i := 40) rfl)) (notFace_of_selects (args := #[]) (mvT hZ (hw _ (List.mem_of_getElem? (i := 41) rfl)))) (by decide) (A5.keep K6) (W := 0) (backC (own_addie l Z a0 hw cv t d1 0 va h6 n0 (by omega) (by omega) C O1 n1 Fv6 hva F6) hZ (hw _ (List.mem_of_getElem? (i := 42) rfl)) (hw _ (List.mem_of_getElem? (i := 10) rfl)) (by decide) (by decide)) eT (hb hby at_115) (by rw [hml]; rfl) [(.int d1), va] [] (lenOf pd_20 rfl) rfl rfl (Nat.le_of_eq rfl) (by decide) (by decide) ?_
    intro v T L X hq
    obtain ⟨rfl, NQ, K7, ky, r, gr, F7⟩ := hq
    have N := Fr.app N NQ
    obtain ⟨h7, eT⟩ : ∃ z, T.heap = z := ⟨_, rfl⟩
    rw [eT] at K7 F7
    have sz7 := K7.1
    show Gl p e below s room_1.cells room_1.slots (fun v h L => v = some (.int 1) ∧ Fr n0 L) (T.setTop (mkF m 118 #[.val (.int p0), .val (.int p1), .val (.int p2), .val (.int p3), .val (.int p4), .val (.int p5), .val (.int d1), .val (.int d2), .val (.int se), .val (.int kq), .val va, .val vb, .val (.ref cv), .unset, .unset, .unset, .unset, .unset] []))
    refine Gl.by (fun t_ k_ => XS.aload X.here hx rfl (hb hby at_118) rfl rfl k_) ?_
    show Gl p e below s room_1.cells room_1.slots (fun v h L => v = some (.int 1) ∧ Fr n0 L) (T.setTop (mkF m 120 #[.val (.int p0), .val (.int p1), .val (.int p2), .val (.int p3), .val (.int p4), .val (.int p5), .val (.int d1), .val (.int d2), .val (.int se), .val (.int kq), .val va, .val vb, .val (.ref cv), .unset, .unset, .unset, .unset, .unset] [(.ref cv)]))
    refine Gl.by (fun t_ k_ => XS.iload X.here hx rfl (hb hby at_120) rfl k_) ?_
    show Gl p e below s room_1.cells room_1.slots (fun v h L => v = some (.int 1) ∧ Fr n0 L) (T.setTop (mkF m 122 #[.val (.int p0), .val (.int p1), .val (.int p2), .val (.int p3), .val (.int p4), .val (.int p5), .val (.int d1), .val (.int d2), .val (.int se), .val (.int kq), .val va, .val vb, .val (.ref cv), .unset, .unset, .unset, .unset, .unset] [(.int d2), (.ref cv)]))
    refine Gl.by (fun t_ k_ => XS.aload X.here hx rfl (hb hby at_122) rfl hvb k_) ?_
    show Gl p e below s room_1.cells room_1.slots (fun v h L => v = some (.int 1) ∧ Fr n0 L) (T.setTop (mkF m 124 #[.val (.int p0), .val (.int p1), .val (.int p2), .val (.int p3), .val (.int p4), .val (.int p5), .val (.int d1), .val (.int d2), .val (.int se), .val (.int kq), .val va, .val vb, .val (.ref cv), .unset, .unset, .unset, .unset, .unset] [vb, (.int d2), (.ref cv)]))
    have O2 := (O1.keep K7 (allS (by omega) all0))
    refine Gl.virt X hx hZ hown (hw _ (List.mem_of_getElem? (i := 38) rfl)) (hw _ (List.mem_of_getElem? (i := 39) rfl)) (hw _ (List.mem_of_getElem? (i := 41) rfl)) (hw _ (List.mem_of_getElem? (i := 40) rfl)) (notFace_of_selects (args := #[]) (mvT hZ (hw _ (List.mem_of_getElem? (i := 41) rfl)))) (by decide) ((A5.keep K6).keep K7) (W := 0) (backC (own_addio l Z a0 hw cv t r ky d2 d1 vb va h7 n0 (by omega) (by omega) C O2 n2 (Fv6.keep K7 (ninS (ne_exa (A5.keep K6) F6.1 (by decide)) nin0)) hvb (by omega) F7) hZ (hw _ (List.mem_of_getElem? (i := 42) rfl)) (hw _ (List.mem_of_getElem? (i := 10) rfl)) (by decide) (by decide)) eT (hb hby at_124) (by rw [hml]; rfl) [(.int d2), vb] [] (lenOf pd_20 rfl) rfl rfl (Nat.le_of_eq rfl) (by decide) (by decide) ?_
    intro v T L X hq
    obtain ⟨rfl, NQ, K8, F8⟩ := hq
    have N := Fr.app N NQ
    obtain ⟨h8, eT⟩ : ∃ z, T.heap = z := ⟨_, rfl⟩
    rw [eT] at K8 F8
    have sz8 := K8.1
    show Gl p e below s room_1.cells room_1.slots (fun v h L => v = some (.int 1) ∧ Fr n0 L) (T.setTop (mkF m 127 #[.val (.int p0), .val (.int p1), .val (.int p2), .val (.int p3), .val (.int p4), .val (.int p5), .val (.int d1), .val (.int d2), .val (.int se), .val (.int kq), .val va, .val vb, .val (.ref cv), .unset, .unset, .unset, .unset, .unset] []))
    rcases F8 with ⟨c3, F8⟩ | ⟨c3, k9, en, ge, F8⟩
    · by_cases k2 : kq = d2
      · refine Gl.by (fun t_ k_ => XS.iload X.here hx rfl (hb hby at_127) rfl k_) ?_
        show Gl p e below s room_1.cells room_1.slots (fun v h L => v = some (.int 1) ∧ Fr n0 L) (T.setTop (mkF m 129 #[.val (.int p0), .val (.int p1), .val (.int p2), .val (.int p3), .val (.int p4), .val (.int p5), .val (.int d1), .val (.int d2), .val (.int se), .val (.int kq), .val va, .val vb, .val (.ref cv), .unset, .unset, .unset, .unset, .unset] [(.int d1)]))
        refine Gl.by (fun t_ k_ => XS.iload X.here hx rfl (hb hby at_129) rfl k_) ?_
        show Gl p e below s room_1.cells room_1.slots (fun v h L => v = some (.int 1) ∧ Fr n0 L) (T.setTop (mkF m 131 #[.val (.int p0), .val (.int p1), .val (.int p2), .val (.int p3), .val (.int p4), .val (.int p5), .val (.int d1), .val (.int d2), .val (.int se), .val (.int kq), .val va, .val vb, .val (.ref cv), .unset, .unset, .unset, .unset, .unset] [(.int d2), (.int d1)]))
        refine Gl.by (fun t_ k_ => XS.icmpNo X.here hx rfl (hb hby at_131) rfl (teq c3.symm).2 k_) ?_
        show Gl p e below s room_1.cells room_1.slots (fun v h L => v = some (.int 1) ∧ Fr n0 L) (T.setTop (mkF m 134 #[.val (.int p0), .val (.int p1), .val (.int p2), .val (.int p3), .val (.int p4), .val (.int p5), .val (.int d1), .val (.int d2), .val (.int se), .val (.int kq), .val va, .val vb, .val (.ref cv), .unset, .unset, .unset, .unset, .unset] []))
        refine Gl.by (fun t_ k_ => XS.iconst X.here hx rfl (hb hby at_134) k_) ?_
        show Gl p e below s room_1.cells room_1.slots (fun v h L => v = some (.int 1) ∧ Fr n0 L) (T.setTop (mkF m 135 #[.val (.int p0), .val (.int p1), .val (.int p2), .val (.int p3), .val (.int p4), .val (.int p5), .val (.int d1), .val (.int d2), .val (.int se), .val (.int kq), .val va, .val vb, .val (.ref cv), .unset, .unset, .unset, .unset, .unset] [(.int (1 : Int32))]))
        refine Gl.by (fun t_ k_ => XS.goto X.here hx rfl (pc0 := 135) (pc' := 139) rfl (hb hby at_135) (by decide) (by decide) k_) ?_
        show Gl p e below s room_1.cells room_1.slots (fun v h L => v = some (.int 1) ∧ Fr n0 L) (T.setTop (mkF m 139 #[.val (.int p0), .val (.int p1), .val (.int p2), .val (.int p3), .val (.int p4), .val (.int p5), .val (.int d1), .val (.int d2), .val (.int se), .val (.int kq), .val va, .val vb, .val (.ref cv), .unset, .unset, .unset, .unset, .unset] [(.int (1 : Int32))]))
        refine Gl.by (fun t_ k_ => XS.istore X.here hx rfl (hb hby at_139) rfl (l' := #[.val (.int p0), .val (.int p1), .val (.int p2), .val (.int p3), .val (.int p4), .val (.int p5), .val (.int d1), .val (.int d2), .val (.int se), .val (.int kq), .val va, .val vb, .val (.ref cv), .val (.int (1 : Int32)), .unset, .unset, .unset, .unset]) rfl k_) ?_
        show Gl p e below s room_1.cells room_1.slots (fun v h L => v = some (.int 1) ∧ Fr n0 L) (T.setTop (mkF m 141 #[.val (.int p0), .val (.int p1), .val (.int p2), .val (.int p3), .val (.int p4), .val (.int p5), .val (.int d1), .val (.int d2), .val (.int se), .val (.int kq), .val va, .val vb, .val (.ref cv), .val (.int (1 : Int32)), .unset, .unset, .unset, .unset] []))
        refine Gl.by (fun t_ k_ => XS.iload X.here hx rfl (hb hby at_141) rfl k_) ?_
        show Gl p e below s room_1.cells room_1.slots (fun v h L => v = some (.int 1) ∧ Fr n0 L) (T.setTop (mkF m 143 #[.val (.int p0), .val (.int p1), .val (.int p2), .val (.int p3), .val (.int p4), .val (.int p5), .val (.int d1), .val (.int d2), .val (.int se), .val (.int kq), .val va, .val vb, .val (.ref cv), .val (.int (1 : Int32)), .unset, .unset, .unset, .unset] [(.int (1 : Int32))]))
        refine Gl.by (fun t_ k_ => XS.ifNo X.here hx rfl (hb hby at_143) rfl ((if0 _ _).trans (feq (by decide : ¬ (1 : Int32) = (0 : Int32))).1) k_) ?_
        show Gl p e below s room_1.cells room_1.slots (fun v h L => v = some (.int 1) ∧ Fr n0 L) (T.setTop (mkF m 146 #[.val (.int p0), .val (.int p1), .val (.int p2), .val (.int p3), .val (.int p4), .val (.int p5), .val (.int d1), .val (.int d2), .val (.int se), .val (.int kq), .val va, .val vb, .val (.ref cv), .val (.int (1 : Int32)), .unset, .unset, .unset, .unset] []))
        refine Gl.by (fun t_ k_ => XS.aload X.here hx rfl (hb hby at_146) rfl hvb k_) ?_
        show Gl p e below s room_1.cells room_1.slots (fun v h L => v = some (.int 1) ∧ Fr n0 L) (T.setTop (mkF m 148 #[.val (.int p0), .val (.int p1), .val (.int p2), .val (.int p3), .val (.int p4), .val (.int p5), .val (.int d1), .val (.int d2), .val (.int se), .val (.int kq), .val va, .val vb, .val (.ref cv), .val (.int (1 : Int32)), .unset, .unset, .unset, .unset] [vb]))
        refine Gl.by (fun t_ k_ => XS.goto X.here hx rfl (pc0 := 148) (pc' := 153) rfl (hb hby at_148) (by decide) (by decide) k_) ?_
        show Gl p e below s room_1.cells room_1.slots (fun v h L => v = some (.int 1) ∧ Fr n0 L) (T.setTop (mkF m 153 #[.val (.int p0), .val (.int p1), .val (.int p2), .val (.int p3), .val (.int p4), .val (.int p5), .val (.int d1), .val (.int d2), .val (.int se), .val (.int kq), .val va, .val vb, .val (.ref cv), .val (.int (1 : Int32)), .unset, .unset, .unset, .unset] [vb]))
        refine Gl.by (fun t_ k_ => XS.astore X.here hx rfl (hb hby at_153) rfl hvb (l' := #[.val (.int p0), .val (.int p1), .val (.int p2), .val (.int p3), .val (.int p4), .val (.int p5), .val (.int d1), .val (.int d2), .val (.int se), .val (.int kq), .val va, .val vb, .val (.ref cv), .val (.int (1 : Int32)), .val vb, .unset, .unset, .unset]) (XS.store1 rfl (Or.inl rfl) (isref_cat hvb)) k_) ?_
        show Gl p e below s room_1.cells room_1.slots (fun v h L => v = some (.int 1) ∧ Fr n0 L) (T.setTop (mkF m 155 #[.val (.int p0), .val (.int p1), .val (.int p2), .val (.int p3), .val (.int p4), .val (.int p5), .val (.int d1), .val (.int d2), .val (.int se), .val (.int kq), .val va, .val vb, .val (.ref cv), .val (.int (1 : Int32)), .val vb, .unset, .unset, .unset] []))
        refine Gl.by (fun t_ k_ => XS.iload X.here hx rfl (hb hby at_155) rfl k_) ?_
        show Gl p e below s room_1.cells room_1.slots (fun v h L => v = some (.int 1) ∧ Fr n0 L) (T.setTop (mkF m 157 #[.val (.int p0), .val (.int p1), .val (.int p2), .val (.int p3), .val (.int p4), .val (.int p5), .val (.int d1), .val (.int d2), .val (.int se), .val (.int kq), .val va, .val vb, .val (.ref cv), .val (.int (1 : Int32)), .val vb, .unset, .unset, .unset] [(.int kq)]))
        refine Gl.by (fun t_ k_ => XS.iload X.here hx rfl (hb hby at_157) rfl k_) ?_
        show Gl p e below s room_1.cells room_1.slots (fun v h L => v = some (.int 1) ∧ Fr n0 L) (T.setTop (mkF m 159 #[.val (.int p0), .val (.int p1), .val (.int p2), .val (.int p3), .val (.int p4), .val (.int p5), .val (.int d1), .val (.int d2), .val (.int se), .val (.int kq), .val va, .val vb, .val (.ref cv), .val (.int (1 : Int32)), .val vb, .unset, .unset, .unset] [(.int d2), (.int kq)]))
        refine Gl.by (fun t_ k_ => XS.icmpNo X.here hx rfl (hb hby at_159) rfl (teq k2).2 k_) ?_
        show Gl p e below s room_1.cells room_1.slots (fun v h L => v = some (.int 1) ∧ Fr n0 L) (T.setTop (mkF m 162 #[.val (.int p0), .val (.int p1), .val (.int p2), .val (.int p3), .val (.int p4), .val (.int p5), .val (.int d1), .val (.int d2), .val (.int se), .val (.int kq), .val va, .val vb, .val (.ref cv), .val (.int (1 : Int32)), .val vb, .unset, .unset, .unset] []))
        refine Gl.by (fun t_ k_ => XS.aload X.here hx rfl (hb hby at_162) rfl hvb k_) ?_
        show Gl p e below s room_1.cells room_1.slots (fun v h L => v = some (.int 1) ∧ Fr n0 L) (T.setTop (mkF m 164 #[.val (.int p0), .val (.int p1), .val (.int p2), .val (.int p3), .val (.int p4), .val (.int p5), .val (.int d1), .val (.int d2), .val (.int se), .val (.int kq), .val va, .val vb, .val (.ref cv), .val (.int (1 : Int32)), .val vb, .unset, .unset, .unset] [vb]))
        refine Gl.by (fun t_ k_ => XS.astore X.here hx rfl (hb hby at_164) rfl hvb (l' := #[.val (.int p0), .val (.int p1), .val (.int p2), .val (.int p3), .val (.int p4), .val (.int p5), .val (.int d1), .val (.int d2), .val (.int se), .val (.int kq), .val va, .val vb, .val (.ref cv), .val (.int (1 : Int32)), .val vb, .val vb, .unset, .unset]) (XS.store1 rfl (Or.inl rfl) (isref_cat hvb)) k_) ?_
        show Gl p e below s room_1.cells room_1.slots (fun v h L => v = some (.int 1) ∧ Fr n0 L) (T.setTop (mkF m 166 #[.val (.int p0), .val (.int p1), .val (.int p2), .val (.int p3), .val (.int p4), .val (.int p5), .val (.int d1), .val (.int d2), .val (.int se), .val (.int kq), .val va, .val vb, .val (.ref cv), .val (.int (1 : Int32)), .val vb, .val vb, .unset, .unset] []))
        refine Gl.by (fun t_ k_ => XS.goto X.here hx rfl (pc0 := 166) (pc' := 186) rfl (hb hby at_166) (by decide) (by decide) k_) ?_
        show Gl p e below s room_1.cells room_1.slots (fun v h L => v = some (.int 1) ∧ Fr n0 L) (T.setTop (mkF m 186 #[.val (.int p0), .val (.int p1), .val (.int p2), .val (.int p3), .val (.int p4), .val (.int p5), .val (.int d1), .val (.int d2), .val (.int se), .val (.int kq), .val va, .val vb, .val (.ref cv), .val (.int (1 : Int32)), .val vb, .val vb, .unset, .unset] []))
        refine Gl.by (fun t_ k_ => XS.iload X.here hx rfl (hb hby at_186) rfl k_) ?_
        show Gl p e below s room_1.cells room_1.slots (fun v h L => v = some (.int 1) ∧ Fr n0 L) (T.setTop (mkF m 188 #[.val (.int p0), .val (.int p1), .val (.int p2), .val (.int p3), .val (.int p4), .val (.int p5), .val (.int d1), .val (.int d2), .val (.int se), .val (.int kq), .val va, .val vb, .val (.ref cv), .val (.int (1 : Int32)), .val vb, .val vb, .unset, .unset] [(.int kq)]))
        refine Gl.by (fun t_ k_ => XS.iload X.here hx rfl (hb hby at_188) rfl k_) ?_
        show Gl p e below s room_1.cells room_1.slots (fun v h L => v = some (.int 1) ∧ Fr n0 L) (T.setTop (mkF m 190 #[.val (.int p0), .val (.int p1), .val (.int p2), .val (.int p3), .val (.int p4), .val (.int p5), .val (.int d1), .val (.int d2), .val (.int se), .val (.int kq), .val va, .val vb, .val (.ref cv), .val (.int (1 : Int32)), .val vb, .val vb, .unset, .unset] [(.int d1), (.int kq)]))
        refine Gl.by (fun t_ k_ => XS.icmpYes X.here hx rfl (pc0 := 190) (pc' := 200) rfl (hb hby at_190) rfl (teq (k2.trans c3)).1 (by decide) (by decide) k_) ?_
        show Gl p e below s room_1.cells room_1.slots (fun v h L => v = some (.int 1) ∧ Fr n0 L) (T.setTop (mkF m 200 #[.val (.int p0), .val (.int p1), .val (.int p2), .val (.int p3), .val (.int p4), .val (.int p5), .val (.int d1), .val (.int d2), .val (.int se), .val (.int kq), .val va, .val vb, .val (.ref cv), .val (.int (1 : Int32)), .val vb, .val vb, .unset, .unset] []))
        refine Gl.by (fun t_ k_ => XS.iconst X.here hx rfl (hb hby at_200) k_) ?_
        show Gl p e below s room_1.cells room_1.slots (fun v h L => v = some (.int 1) ∧ Fr n0 L) (T.setTop (mkF m 201 #[.val (.int p0), .val (.int p1), .val (.int p2), .val (.int p3), .val (.int p4), .val (.int p5), .val (.int d1), .val (.int d2), .val (.int se), .val (.int kq), .val va, .val vb, .val (.ref cv), .val (.int (1 : Int32)), .val vb, .val vb, .unset, .unset] [(.int (1 : Int32))]))
        refine Gl.by (fun t_ k_ => XS.goto X.here hx rfl (pc0 := 201) (pc' := 205) rfl (hb hby at_201) (by decide) (by decide) k_) ?_
        show Gl p e below s room_1.cells room_1.slots (fun v h L => v = some (.int 1) ∧ Fr n0 L) (T.setTop (mkF m 205 #[.val (.int p0), .val (.int p1), .val (.int p2), .val (.int p3), .val (.int p4), .val (.int p5), .val (.int d1), .val (.int d2), .val (.int se), .val (.int kq), .val va, .val vb, .val (.ref cv), .val (.int (1 : Int32)), .val vb, .val vb, .unset, .unset] [(.int (1 : Int32))]))
        refine Gl.by (fun t_ k_ => XS.istore X.here hx rfl (hb hby at_205) rfl (l' := #[.val (.int p0), .val (.int p1), .val (.int p2), .val (.int p3), .val (.int p4), .val (.int p5), .val (.int d1), .val (.int d2), .val (.int se), .val (.int kq), .val va, .val vb, .val (.ref cv), .val (.int (1 : Int32)), .val vb, .val vb, .val (.int (1 : Int32)), .unset]) rfl k_) ?_
        show Gl p e below s room_1.cells room_1.slots (fun v h L => v = some (.int 1) ∧ Fr n0 L) (T.setTop (mkF m 207 #[.val (.int p0), .val (.int p1), .val (.int p2), .val (.int p3), .val (.int p4), .val (.int p5), .val (.int d1), .val (.int d2), .val (.int se), .val (.int kq), .val va, .val vb, .val (.ref cv), .val (.int (1 : Int32)), .val vb, .val vb, .val (.int (1 : Int32)), .unset] []))
        refine Gl.by (fun t_ k_ => XS.iload X.here hx rfl (hb hby at_207) rfl k_) ?_
        show Gl p e below s room_1.cells room_1.slots (fun v h L => v = some (.int 1) ∧ Fr n0 L) (T.setTop (mkF m 209 #[.val (.int p0), .val (.int p1), .val (.int p2), .val (.int p3), .val (.int p4), .val (.int p5), .val (.int d1), .val (.int d2), .val (.int se), .val (.int kq), .val va, .val vb, .val (.ref cv), .val (.int (1 : Int32)), .val vb, .val vb, .val (.int (1 : Int32)), .unset] [(.int (1 : Int32))]))
        refine Gl.by (fun t_ k_ => XS.ifNo X.here hx rfl (hb hby at_209) rfl ((if0 _ _).trans (feq (by decide : ¬ (1 : Int32) = (0 : Int32))).1) k_) ?_
        show Gl p e below s room_1.cells room_1.slots (fun v h L => v = some (.int 1) ∧ Fr n0 L) (T.setTop (mkF m 212 #[.val (.int p0), .val (.int p1), .val (.int p2), .val (.int p3), .val (.int p4), .val (.int p5), .val (.int d1), .val (.int d2), .val (.int se), .val (.int kq), .val va, .val vb, .val (.ref cv), .val (.int (1 : Int32)), .val vb, .val vb, .val (.int (1 : Int32)), .unset] []))
        refine Gl.by (fun t_ k_ => XS.iconst X.here hx rfl (hb hby at_212) k_) ?_
        show Gl p e below s room_1.cells room_1.slots (fun v h L => v = some (.int 1) ∧ Fr n0 L) (T.setTop (mkF m 213 #[.val (.int p0), .val (.int p1), .val (.int p2), .val (.int p3), .val (.int p4), .val (.int p5), .val (.int d1), .val (.int d2), .val (.int se), .val (.int kq), .val va, .val vb, .val (.ref cv), .val (.int (1 : Int32)), .val vb, .val vb, .val (.int (1 : Int32)), .unset] [(.int (1 : Int32))]))
        refine Gl.by (fun t_ k_ => XS.goto X.here hx rfl (pc0 := 213) (pc' := 217) rfl (hb hby at_213) (by decide) (by decide) k_) ?_
        show Gl p e below s room_1.cells room_1.slots (fun v h L => v = some (.int 1) ∧ Fr n0 L) (T.setTop (mkF m 217 #[.val (.int p0), .val (.int p1), .val (.int p2), .val (.int p3), .val (.int p4), .val (.int p5), .val (.int d1), .val (.int d2), .val (.int se), .val (.int kq), .val va, .val vb, .val (.ref cv), .val (.int (1 : Int32)), .val vb, .val vb, .val (.int (1 : Int32)), .unset] [(.int (1 : Int32))]))
        refine Gl.by (fun t_ k_ => XS.istore X.here hx rfl (hb hby at_217) rfl (l' := #[.val (.int p0), .val (.int p1), .val (.int p2), .val (.int p3), .val (.int p4), .val (.int p5), .val (.int d1), .val (.int d2), .val (.int se), .val (.int kq), .val va, .val vb, .val (.ref cv), .val (.int (1 : Int32)), .val vb, .val vb, .val (.int (1 : Int32)), .val (.int (1 : Int32))]) rfl k_) ?_
        show Gl p e below s room_1.cells room_1.slots (fun v h L => v = some (.int 1) ∧ Fr n0 L) (T.setTop (mkF m 219 #[.val (.int p0), .val (.int p1), .val (.int p2), .val (.int p3), .val (.int p4), .val (.int p5), .val (.int d1), .val (.int d2), .val (.int se), .val (.int kq), .val va, .val vb, .val (.ref cv), .val (.int (1 : Int32)), .val vb, .val vb, .val (.int (1 : Int32)), .val (.int (1 : Int32))] []))
        exact j219 h8 d1 d2 se kq _ _ cv t _ va vb vb vb (fun q => if q = d1 then some vb else none) T _ (wider X (by decide) (by decide)) N eT hva hvb hvb hvb (O2.keep K8 (allS (by omega) (allS (by omega) all0))) (by omega) (((A5.keep K6).keep K7).keep K8) ((Fv6.keep K7 (ninS (ne_exa (A5.keep K6) F6.1 (by decide)) nin0)).keep K8 (ninS (ne_exa ((A5.keep K6).keep K7) (F6.1.keep K7) (by decide)) (ninS (ne_exa ((A5.keep K6).keep K7) F7.choose_spec.2.1 (by decide)) nin0))) F8.mp (by decide) (by show Option.getD (if d1 = d1 then some vb else none) Value.null = _; rw [if_pos rfl]; rfl) (by show Option.getD (if d2 = d1 then some vb else none) Value.null = _; rw [if_pos c3]; rfl) (by show Option.getD (if kq = d1 then some vb else none) Value.null = _; rw [if_pos (k2.trans c3)]; rfl) (by show (if (if kq = d1 then some vb else none).isSome = true then (1 : Int32) else 0) = _; rw [if_pos (k2.trans c3)]; rfl)
      · have k1 : ¬ kq = d1 := fun z => k2 (z.trans c3.symm)
        refine Gl.by (fun t_ k_ => XS.iload X.here hx rfl (hb hby at_127) rfl k_) ?_
        show Gl p e below s room_1.cells room_1.slots (fun v h L => v = some (.int 1) ∧ Fr n0 L) (T.setTop (mkF m 129 #[.val (.int p0), .val (.int p1), .val (.int p2), .val (.int p3), .val (.int p4), .val (.int p5), .val (.int d1), .val (.int d2), .val (.int se), .val (.int kq), .val va, .val vb, .val (.ref cv), .unset, .unset, .unset, .unset, .unset] [(.int d1)]))
        refine Gl.by (fun t_ k_ => XS.iload X.here hx rfl (hb hby at_129) rfl k_) ?_
        show Gl p e below s room_1.cells room_1.slots (fun v h L => v = some (.int 1) ∧ Fr n0 L) (T.setTop (mkF m 131 #[.val (.int p0), .val (.int p1), .val (.int p2), .val (.int p3), .val (.int p4), .val (.int p5), .val (.int d1), .val (.int d2), .val (.int se), .val (.int kq), .val va, .val vb, .val (.ref cv), .unset, .unset, .unset, .unset, .unset] [(.int d2), (.int d1)]))
        refine Gl.by (fun t_ k_ => XS.icmpNo X.here hx rfl (hb hby at_131) rfl (teq c3.symm).2 k_) ?_
        show Gl p e below s room_1.cells room_1.slots (fun v h L => v = some (.int 1) ∧ Fr n0 L) (T.setTop (mkF m 134 #[.val (.int p0), .val (.int p1), .val (.int p2), .val (.int p3), .val (.int p4), .val (.int p5), .val (.int d1), .val (.int d2), .val (.int se), .val (.int kq), .val va, .val vb, .val (.ref cv), .unset, .unset, .unset, .unset, .unset] []))
        refine Gl.by (fun t_ k_ => XS.iconst X.here hx rfl (hb hby at_134) k_) ?_
        show Gl p e below s room_1.cells room_1.slots (fun v h L => v = some (.int 1) ∧ Fr n0 L) (T.setTop (mkF m 135 #[.val (.int p0), .val (.int p1), .val (.int p2), .val (.int p3), .val (.int p4), .val (.int p5), .val (.int d1), .val (.int d2), .val (.int se), .val (.int kq), .val va, .val vb, .val (.ref cv), .unset, .unset, .unset, .unset, .unset] [(.int (1 : Int32))]))
        refine Gl.by (fun t_ k_ => XS.goto X.here hx rfl (pc0 := 135) (pc' := 139) rfl (hb hby at_135) (by decide) (by decide) k_) ?_
        show Gl p e below s room_1.cells room_1.slots (fun v h L => v = some (.int 1) ∧ Fr n0 L) (T.setTop (mkF m 139 #[.val (.int p0), .val (.int p1), .val (.int p2), .val (.int p3), .val (.int p4), .val (.int p5), .val (.int d1), .val (.int d2), .val (.int se), .val (.int kq), .val va, .val vb, .val (.ref cv), .unset, .unset, .unset, .unset, .unset] [(.int (1 : Int32))]))
        refine Gl.by (fun t_ k_ => XS.istore X.here hx rfl (hb hby at_139) rfl (l' := #[.val (.int p0), .val (.int p1), .val (.int p2), .val (.int p3), .val (.int p4), .val (.int p5), .val (.int d1), .val (.int d2), .val (.int se), .val (.int kq), .val va, .val vb, .val (.ref cv), .val (.int (1 : Int32)), .unset, .unset, .unset, .unset]) rfl k_) ?_
        show Gl p e below s room_1.cells room_1.slots (fun v h L => v = some (.int 1) ∧ Fr n0 L) (T.setTop (mkF m 141 #[.val (.int p0), .val (.int p1), .val (.int p2), .val (.int p3), .val (.int p4), .val (.int p5), .val (.int d1), .val (.int d2), .val (.int se), .val (.int kq), .val va, .val vb, .val (.ref cv), .val (.int (1 : Int32)), .unset, .unset, .unset, .unset] []))
        refine Gl.by (fun t_ k_ => XS.iload X.here hx rfl (hb hby at_141) rfl k_) ?_
        show Gl p e below s room_1.cells room_1.slots (fun v h L => v = some (.int 1) ∧ Fr n0 L) (T.setTop (mkF m 143 #[.val (.int p0), .val (.int p1), .val (.int p2), .val (.int p3), .val (.int p4), .val (.int p5), .val (.int d1), .val (.int d2), .val (.int se), .val (.int kq), .val va, .val vb, .val (.ref cv), .val (.int (1 : Int32)), .unset, .unset, .unset, .unset] [(.int (1 : Int32))]))
        refine Gl.by (fun t_ k_ => XS.ifNo X.here hx rfl (hb hby at_143) rfl ((if0 _ _).trans (feq (by decide : ¬ (1 : Int32) = (0 : Int32))).1) k_) ?_
        show Gl p e below s room_1.cells room_1.slots (fun v h L => v = some (.int 1) ∧ Fr n0 L) (T.setTop (mkF m 146 #[.val (.int p0), .val (.int p1), .val (.int p2), .val (.int p3), .val (.int p4), .val (.int p5), .val (.int d1), .val (.int d2), .val (.int se), .val (.int kq), .val va, .val vb, .val (.ref cv), .val (.int (1 : Int32)), .unset, .unset, .unset, .unset] []))
        refine Gl.by (fun t_ k_ => XS.aload X.here hx rfl (hb hby at_146) rfl hvb k_) ?_
        show Gl p e below s room_1.cells room_1.slots (fun v h L => v = some (.int 1) ∧ Fr n0 L) (T.setTop (mkF m 148 #[.val (.int p0), .val (.int p1), .val (.int p2), .val (.int p3), .val (.int p4), .val (.int p5), .val (.int d1), .val (.int d2), .val (.int se), .val (.int kq), .val va, .val vb, .val (.ref cv), .val (.int (1 : Int32)), .unset, .unset, .unset, .unset] [vb]))
        refine Gl.by (fun t_ k_ => XS.goto X.here hx rfl (pc0 := 148) (pc' := 153) rfl (hb hby at_148) (by decide) (by decide) k_) ?_
        show Gl p e below s room_1.cells room_1.slots (fun v h L => v = some (.int 1) ∧ Fr n0 L) (T.setTop (mkF m 153 #[.val (.int p0), .val (.int p1), .val (.int p2), .val (.int p3), .val (.int p4), .val (.int p5), .val (.int d1), .val (.int d2), .val (.int se), .val (.int kq), .val va, .val vb, .val (.ref cv), .val (.int (1 : Int32)), .unset, .unset, .unset, .unset] [vb]))
        refine Gl.by (fun t_ k_ => XS.astore X.here hx rfl (hb hby at_153) rfl hvb (l' := #[.val (.int p0), .val (.int p1), .val (.int p2), .val (.int p3), .val (.int p4), .val (.int p5), .val (.int d1), .val (.int d2), .val (.int se), .val (.int kq), .val va, .val vb, .val (.ref cv), .val (.int (1 : Int32)), .val vb, .unset, .unset, .unset]) (XS.store1 rfl (Or.inl rfl) (isref_cat hvb)) k_) ?_
        show Gl p e below s room_1.cells room_1.slots (fun v h L => v = some (.int 1) ∧ Fr n0 L) (T.setTop (mkF m 155 #[.val (.int p0), .val (.int p1), .val (.int p2), .val (.int p3), .val (.int p4), .val (.int p5), .val (.int d1), .val (.int d2), .val (.int se), .val (.int kq), .val va, .val vb, .val (.ref cv), .val (.int (1 : Int32)), .val vb, .unset, .unset, .unset] []))
        refine Gl.by (fun t_ k_ => XS.iload X.here hx rfl (hb hby at_155) rfl k_) ?_
        show Gl p e below s room_1.cells room_1.slots (fun v h L => v = some (.int 1) ∧ Fr n0 L) (T.setTop (mkF m 157 #[.val (.int p0), .val (.int p1), .val (.int p2), .val (.int p3), .val (.int p4), .val (.int p5), .val (.int d1), .val (.int d2), .val (.int se), .val (.int kq), .val va, .val vb, .val (.ref cv), .val (.int (1 : Int32)), .val vb, .unset, .unset, .unset] [(.int kq)]))
        refine Gl.by (fun t_ k_ => XS.iload X.here hx rfl (hb hby at_157) rfl k_) ?_
        show Gl p e below s room_1.cells room_1.slots (fun v h L => v = some (.int 1) ∧ Fr n0 L) (T.setTop (mkF m 159 #[.val (.int p0), .val (.int p1), .val (.int p2), .val (.int p3), .val (.int p4), .val (.int p5), .val (.int d1), .val (.int d2), .val (.int se), .val (.int kq), .val va, .val vb, .val (.ref cv), .val (.int (1 : Int32)), .val vb, .unset, .unset, .unset] [(.int d2), (.int kq)]))
        refine Gl.by (fun t_ k_ => XS.icmpYes X.here hx rfl (pc0 := 159) (pc' := 169) rfl (hb hby at_159) rfl (feq k2).2 (by decide) (by decide) k_) ?_
        show Gl p e below s room_1.cells room_1.slots (fun v h L => v = some (.int 1) ∧ Fr n0 L) (T.setTop (mkF m 169 #[.val (.int p0), .val (.int p1), .val (.int p2), .val (.int p3), .val (.int p4), .val (.int p5), .val (.int d1), .val (.int d2), .val (.int se), .val (.int kq), .val va, .val vb, .val (.ref cv), .val (.int (1 : Int32)), .val vb, .unset, .unset, .unset] []))
        refine Gl.by (fun t_ k_ => XS.iload X.here hx rfl (hb hby at_169) rfl k_) ?_
        show Gl p e below s room_1.cells room_1.slots (fun v h L => v = some (.int 1) ∧ Fr n0 L) (T.setTop (mkF m 171 #[.val (.int p0), .val (.int p1), .val (.int p2), .val (.int p3), .val (.int p4), .val (.int p5), .val (.int d1), .val (.int d2), .val (.int se), .val (.int kq), .val va, .val vb, .val (.ref cv), .val (.int (1 : Int32)), .val vb, .unset, .unset, .unset] [(.int kq)]))
        refine Gl.by (fun t_ k_ => XS.iload X.here hx rfl (hb hby at_171) rfl k_) ?_
        show Gl p e below s room_1.cells room_1.slots (fun v h L => v = some (.int 1) ∧ Fr n0 L) (T.setTop (mkF m 173 #[.val (.int p0), .val (.int p1), .val (.int p2), .val (.int p3), .val (.int p4), .val (.int p5), .val (.int d1), .val (.int d2), .val (.int se), .val (.int kq), .val va, .val vb, .val (.ref cv), .val (.int (1 : Int32)), .val vb, .unset, .unset, .unset] [(.int d1), (.int kq)]))
        refine Gl.by (fun t_ k_ => XS.icmpYes X.here hx rfl (pc0 := 173) (pc' := 183) rfl (hb hby at_173) rfl (feq k1).2 (by decide) (by decide) k_) ?_
        show Gl p e below s room_1.cells room_1.slots (fun v h L => v = some (.int 1) ∧ Fr n0 L) (T.setTop (mkF m 183 #[.val (.int p0), .val (.int p1), .val (.int p2), .val (.int p3), .val (.int p4), .val (.int p5), .val (.int d1), .val (.int d2), .val (.int se), .val (.int kq), .val va, .val vb, .val (.ref cv), .val (.int (1 : Int32)), .val vb, .unset, .unset, .unset] []))
        refine Gl.by (fun t_ k_ => XS.aconstNull X.here hx rfl (hb hby at_183) k_) ?_
        show Gl p e below s room_1.cells room_1.slots (fun v h L => v = some (.int 1) ∧ Fr n0 L) (T.setTop (mkF m 184 #[.val (.int p0), .val (.int p1), .val (.int p2), .val (.int p3), .val (.int p4), .val (.int p5), .val (.int d1), .val (.int d2), .val (.int se), .val (.int kq), .val va, .val vb, .val (.ref cv), .val (.int (1 : Int32)), .val vb, .unset, .unset, .unset] [.null]))
        refine Gl.by (fun t_ k_ => XS.astore X.here hx rfl (hb hby at_184) rfl rfl (l' := #[.val (.int p0), .val (.int p1), .val (.int p2), .val (.int p3), .val (.int p4), .val (.int p5), .val (.int d1), .val (.int d2), .val (.int se), .val (.int kq), .val va, .val vb, .val (.ref cv), .val (.int (1 : Int32)), .val vb, .val .null, .unset, .unset]) rfl k_) ?_
        show Gl p e below s room_1.cells room_1.slots (fun v h L => v = some (.int 1) ∧ Fr n0 L) (T.setTop (mkF m 186 #[.val (.int p0), .val (.int p1), .val (.int p2), .val (.int p3), .val (.int p4), .val (.int p5), .val (.int d1), .val (.int d2), .val (.int se), .val (.int kq), .val va, .val vb, .val (.ref cv), .val (.int (1 : Int32)), .val vb, .val .null, .unset, .unset] []))
        refine Gl.by (fun t_ k_ => XS.iload X.here hx rfl (hb hby at_186) rfl k_) ?_
        show Gl p e below s room_1.cells room_1.slots (fun v h L => v = some (.int 1) ∧ Fr n0 L) (T.setTop (mkF m 188 #[.val (.int p0), .val (.int p1), .val (.int p2), .val (.int p3), .val (.int p4), .val (.int p5), .val (.int d1), .val (.int d2), .val (.int se), .val (.int kq), .val va, .val vb, .val (.ref cv), .val (.int (1 : Int32)), .val vb, .val .null, .unset, .unset] [(.int kq)]))
        refine Gl.by (fun t_ k_ => XS.iload X.here hx rfl (hb hby at_188) rfl k_) ?_
        show Gl p e below s room_1.cells room_1.slots (fun v h L => v = some (.int 1) ∧ Fr n0 L) (T.setTop (mkF m 190 #[.val (.int p0), .val (.int p1), .val (.int p2), .val (.int p3), .val (.int p4), .val (.int p5), .val (.int d1), .val (.int d2), .val (.int se), .val (.int kq), .val va, .val vb, .val (.ref cv), .val (.int (1 : Int32)), .val vb, .val .null, .unset, .unset] [(.int d1), (.int kq)]))
        refine Gl.by (fun t_ k_ => XS.icmpNo X.here hx rfl (hb hby at_190) rfl (feq k1).1 k_) ?_
        show Gl p e below s room_1.cells room_1.slots (fun v h L => v = some (.int 1) ∧ Fr n0 L) (T.setTop (mkF m 193 #[.val (.int p0), .val (.int p1), .val (.int p2), .val (.int p3), .val (.int p4), .val (.int p5), .val (.int d1), .val (.int d2), .val (.int se), .val (.int kq), .val va, .val vb, .val (.ref cv), .val (.int (1 : Int32)), .val vb, .val .null, .unset, .unset] []))
        refine Gl.by (fun t_ k_ => XS.iload X.here hx rfl (hb hby at_193) rfl k_) ?_
        show Gl p e below s room_1.cells room_1.slots (fun v h L => v = some (.int 1) ∧ Fr n0 L) (T.setTop (mkF m 195 #[.val (.int p0), .val (.int p1), .val (.int p2), .val (.int p3), .val (.int p4), .val (.int p5), .val (.int d1), .val (.int d2), .val (.int se), .val (.int kq), .val va, .val vb, .val (.ref cv), .val (.int (1 : Int32)), .val vb, .val .null, .unset, .unset] [(.int kq)]))
        refine Gl.by (fun t_ k_ => XS.iload X.here hx rfl (hb hby at_195) rfl k_) ?_
        show Gl p e below s room_1.cells room_1.slots (fun v h L => v = some (.int 1) ∧ Fr n0 L) (T.setTop (mkF m 197 #[.val (.int p0), .val (.int p1), .val (.int p2), .val (.int p3), .val (.int p4), .val (.int p5), .val (.int d1), .val (.int d2), .val (.int se), .val (.int kq), .val va, .val vb, .val (.ref cv), .val (.int (1 : Int32)), .val vb, .val .null, .unset, .unset] [(.int d2), (.int kq)]))
        refine Gl.by (fun t_ k_ => XS.icmpYes X.here hx rfl (pc0 := 197) (pc' := 204) rfl (hb hby at_197) rfl (feq k2).2 (by decide) (by decide) k_) ?_
        show Gl p e below s room_1.cells room_1.slots (fun v h L => v = some (.int 1) ∧ Fr n0 L) (T.setTop (mkF m 204 #[.val (.int p0), .val (.int p1), .val (.int p2), .val (.int p3), .val (.int p4), .val (.int p5), .val (.int d1), .val (.int d2), .val (.int se), .val (.int kq), .val va, .val vb, .val (.ref cv), .val (.int (1 : Int32)), .val vb, .val .null, .unset, .unset] []))
        refine Gl.by (fun t_ k_ => XS.iconst X.here hx rfl (hb hby at_204) k_) ?_
        show Gl p e below s room_1.cells room_1.slots (fun v h L => v = some (.int 1) ∧ Fr n0 L) (T.setTop (mkF m 205 #[.val (.int p0), .val (.int p1), .val (.int p2), .val (.int p3), .val (.int p4), .val (.int p5), .val (.int d1), .val (.int d2), .val (.int se), .val (.int kq), .val va, .val vb, .val (.ref cv), .val (.int (1 : Int32)), .val vb, .val .null, .unset, .unset] [(.int (0 : Int32))]))
        refine Gl.by (fun t_ k_ => XS.istore X.here hx rfl (hb hby at_205) rfl (l' := #[.val (.int p0), .val (.int p1), .val (.int p2), .val (.int p3), .val (.int p4), .val (.int p5), .val (.int d1), .val (.int d2), .val (.int se), .val (.int kq), .val va, .val vb, .val (.ref cv), .val (.int (1 : Int32)), .val vb, .val .null, .val (.int (0 : Int32)), .unset]) rfl k_) ?_
        show Gl p e below s room_1.cells room_1.slots (fun v h L => v = some (.int 1) ∧ Fr n0 L) (T.setTop (mkF m 207 #[.val (.int p0), .val (.int p1), .val (.int p2), .val (.int p3), .val (.int p4), .val (.int p5), .val (.int d1), .val (.int d2), .val (.int se), .val (.int kq), .val va, .val vb, .val (.ref cv), .val (.int (1 : Int32)), .val vb, .val .null, .val (.int (0 : Int32)), .unset] []))
        refine Gl.by (fun t_ k_ => XS.iload X.here hx rfl (hb hby at_207) rfl k_) ?_
        show Gl p e below s room_1.cells room_1.slots (fun v h L => v = some (.int 1) ∧ Fr n0 L) (T.setTop (mkF m 209 #[.val (.int p0), .val (.int p1), .val (.int p2), .val (.int p3), .val (.int p4), .val (.int p5), .val (.int d1), .val (.int d2), .val (.int se), .val (.int kq), .val va, .val vb, .val (.ref cv), .val (.int (1 : Int32)), .val vb, .val .null, .val (.int (0 : Int32)), .unset] [(.int (1 : Int32))]))
        refine Gl.by (fun t_ k_ => XS.ifNo X.here hx rfl (hb hby at_209) rfl ((if0 _ _).trans (feq (by decide : ¬ (1 : Int32) = (0 : Int32))).1) k_) ?_
        show Gl p e below s room_1.cells room_1.slots (fun v h L => v = some (.int 1) ∧ Fr n0 L) (T.setTop (mkF m 212 #[.val (.int p0), .val (.int p1), .val (.int p2), .val (.int p3), .val (.int p4), .val (.int p5), .val (.int d1), .val (.int d2), .val (.int se), .val (.int kq), .val va, .val vb, .val (.ref cv), .val (.int (1 : Int32)), .val vb, .val .null, .val (.int (0 : Int32)), .unset] []))
        refine Gl.by (fun t_ k_ => XS.iconst X.here hx rfl (hb hby at_212) k_) ?_
        show Gl p e below s room_1.cells room_1.slots (fun v h L => v = some (.int 1) ∧ Fr n0 L) (T.setTop (mkF m 213 #[.val (.int p0), .val (.int p1), .val (.int p2), .val (.int p3), .val (.int p4), .val (.int p5), .val (.int d1), .val (.int d2), .val (.int se), .val (.int kq), .val va, .val vb, .val (.ref cv), .val (.int (1 : Int32)), .val vb, .val .null, .val (.int (0 : Int32)), .unset] [(.int (1 : Int32))]))
        refine Gl.by (fun t_ k_ => XS.goto X.here hx rfl (pc0 := 213) (pc' := 217) rfl (hb hby at_213) (by decide) (by decide) k_) ?_
        show Gl p e below s room_1.cells room_1.slots (fun v h L => v = some (.int 1) ∧ Fr n0 L) (T.setTop (mkF m 217 #[.val (.int p0), .val (.int p1), .val (.int p2), .val (.int p3), .val (.int p4), .val (.int p5), .val (.int d1), .val (.int d2), .val (.int se), .val (.int kq), .val va, .val vb, .val (.ref cv), .val (.int (1 : Int32)), .val vb, .val .null, .val (.int (0 : Int32)), .unset] [(.int (1 : Int32))]))
        refine Gl.by (fun t_ k_ => XS.istore X.here hx rfl (hb hby at_217) rfl (l' := #[.val (.int p0), .val (.int p1), .val (.int p2), .val (.int p3), .val (.int p4), .val (.int p5), .val (.int d1), .val (.int d2), .val (.int se), .val (.int kq), .val va, .val vb, .val (.ref cv), .val (.int (1 : Int32)), .val vb, .val .null, .val (.int (0 : Int32)), .val (.int (1 : Int32))]) rfl k_) ?_
        show Gl p e below s room_1.cells room_1.slots (fun v h L => v = some (.int 1) ∧ Fr n0 L) (T.setTop (mkF m 219 #[.val (.int p0), .val (.int p1), .val (.int p2), .val (.int p3), .val (.int p4), .val (.int p5), .val (.int d1), .val (.int d2), .val (.int se), .val (.int kq), .val va, .val vb, .val (.ref cv), .val (.int (1 : Int32)), .val vb, .val .null, .val (.int (0 : Int32)), .val (.int (1 : Int32))] []))
        exact j219 h8 d1 d2 se kq _ _ cv t _ va vb vb .null (fun q => if q = d1 then some vb else none) T _ (wider X (by decide) (by decide)) N eT hva hvb hvb rfl (O2.keep K8 (allS (by omega) (allS (by omega) all0))) (by omega) (((A5.keep K6).keep K7).keep K8) ((Fv6.keep K7 (ninS (ne_exa (A5.keep K6) F6.1 (by decide)) nin0)).keep K8 (ninS (ne_exa ((A5.keep K6).keep K7) (F6.1.keep K7) (by decide)) (ninS (ne_exa ((A5.keep K6).keep K7) F7.choose_spec.2.1 (by decide)) nin0))) F8.mp (by decide) (by show Option.getD (if d1 = d1 then some vb else none) Value.null = _; rw [if_pos rfl]; rfl) (by show Option.getD (if d2 = d1 then some vb else none) Value.null = _; rw [if_pos c3]; rfl) (by show Option.getD (if kq = d1 then some vb else none) Value.null = _; rw [if_neg k1]; rfl) (by show (if (if kq = d1 then some vb else none).isSome = true then (1 : Int32) else 0) = _; rw [if_neg k1]; rfl)
    · by_cases k2 : kq = d2
      · have k1 : ¬ kq = d1 := fun z => c3 (k2.symm.trans z)
        refine Gl.by (fun t_ k_ => XS.iload X.here hx rfl (hb hby at_127) rfl k_) ?_
        show Gl p e below s room_1.cells room_1.slots (fun v h L => v = some (.int 1) ∧ Fr n0 L) (T.setTop (mkF m 129 #[.val (.int p0), .val (.int p1), .val (.int p2), .val (.int p3), .val (.int p4), .val (.int p5), .val (.int d1), .val (.int d2), .val (.int se), .val (.int kq), .val va, .val vb, .val (.ref cv), .unset, .unset, .unset, .unset, .unset] [(.int d1)]))
        refine Gl.by (fun t_ k_ => XS.iload X.here hx rfl (hb hby at_129) rfl k_) ?_
        show Gl p e below s room_1.cells room_1.slots (fun v h L => v = some (.int 1) ∧ Fr n0 L) (T.setTop (mkF m 131 #[.val (.int p0), .val (.int p1), .val (.int p2), .val (.int p3), .val (.int p4), .val (.int p5), .val (.int d1), .val (.int d2), .val (.int se), .val (.int kq), .val va, .val vb, .val (.ref cv), .unset, .unset, .unset, .unset, .unset] [(.int d2), (.int d1)]))
        refine Gl.by (fun t_ k_ => XS.icmpYes X.here hx rfl (pc0 := 131) (pc' := 138) rfl (hb hby at_131) rfl (feq (fun z => c3 z.symm)).2 (by decide) (by decide) k_) ?_
        show Gl p e below s room_1.cells room_1.slots (fun v h L => v = some (.int 1) ∧ Fr n0 L) (T.setTop (mkF m 138 #[.val (.int p0), .val (.int p1), .val (.int p2), .val (.int p3), .val (.int p4), .val (.int p5), .val (.int d1), .val (.int d2), .val (.int se), .val (.int kq), .val va, .val vb, .val (.ref cv), .unset, .unset, .unset, .unset, .unset] []))
        refine Gl.by (fun t_ k_ => XS.iconst X.here hx rfl (hb hby at_138) k_) ?_
        show Gl p e below s room_1.cells room_1.slots (fun v h L => v = some (.int 1) ∧ Fr n0 L) (T.setTop (mkF m 139 #[.val (.int p0), .val (.int p1), .val (.int p2), .val (.int p3), .val (.int p4), .val (.int p5), .val (.int d1), .val (.int d2), .val (.int se), .val (.int kq), .val va, .val vb, .val (.ref cv), .unset, .unset, .unset, .unset, .unset] [(.int (0 : Int32))]))
        refine Gl.by (fun t_ k_ => XS.istore X.here hx rfl (hb hby at_139) rfl (l' := #[.val (.int p0), .val (.int p1), .val (.int p2), .val (.int p3), .val (.int p4), .val (.int p5), .val (.int d1), .val (.int d2), .val (.int se), .val (.int kq), .val va, .val vb, .val (.ref cv), .val (.int (0 : Int32)), .unset, .unset, .unset, .unset]) rfl k_) ?_
        show Gl p e below s room_1.cells room_1.slots (fun v h L => v = some (.int 1) ∧ Fr n0 L) (T.setTop (mkF m 141 #[.val (.int p0), .val (.int p1), .val (.int p2), .val (.int p3), .val (.int p4), .val (.int p5), .val (.int d1), .val (.int d2), .val (.int se), .val (.int kq), .val va, .val vb, .val (.ref cv), .val (.int (0 : Int32)), .unset, .unset, .unset, .unset] []))
        refine Gl.by (fun t_ k_ => XS.iload X.here hx rfl (hb hby at_141) rfl k_) ?_
        show Gl p e below s room_1.cells room_1.slots (fun v h L => v = some (.int 1) ∧ Fr n0 L) (T.setTop (mkF m 143 #[.val (.int p0), .val (.int p1), .val (.int p2), .val (.int p3), .val (.int p4), .val (.int p5), .val (.int d1), .val (.int d2), .val (.int se), .val (.int kq), .val va, .val vb, .val (.ref cv), .val (.int (0 : Int32)), .unset, .unset, .unset, .unset] [(.int (0 : Int32))]))
        refine Gl.by (fun t_ k_ => XS.ifYes X.here hx rfl (pc0 := 143) (pc' := 151) rfl (hb hby at_143) rfl ((if0 _ _).trans (teq (by decide : (0 : Int32) = (0 : Int32))).1) (by decide) (by decide) k_) ?_
        show Gl p e below s room_1.cells room_1.slots (fun v h L => v = some (.int 1) ∧ Fr n0 L) (T.setTop (mkF m 151 #[.val (.int p0), .val (.int p1), .val (.int p2), .val (.int p3), .val (.int p4), .val (.int p5), .val (.int d1), .val (.int d2), .val (.int se), .val (.int kq), .val va, .val vb, .val (.ref cv), .val (.int (0 : Int32)), .unset, .unset, .unset, .unset] []))
        refine Gl.by (fun t_ k_ => XS.aload X.here hx rfl (hb hby at_151) rfl hva k_) ?_
        show Gl p e below s room_1.cells room_1.slots (fun v h L => v = some (.int 1) ∧ Fr n0 L) (T.setTop (mkF m 153 #[.val (.int p0), .val (.int p1), .val (.int p2), .val (.int p3), .val (.int p4), .val (.int p5), .val (.int d1), .val (.int d2), .val (.int se), .val (.int kq), .val va, .val vb, .val (.ref cv), .val (.int (0 : Int32)), .unset, .unset, .unset, .unset] [va]))
        refine Gl.by (fun t_ k_ => XS.astore X.here hx rfl (hb hby at_153) rfl hva (l' := #[.val (.int p0), .val (.int p1), .val (.int p2), .val (.int p3), .val (.int p4), .val (.int p5), .val (.int d1), .val (.int d2), .val (.int se), .val (.int kq), .val va, .val vb, .val (.ref cv), .val (.int (0 : Int32)), .val va, .unset, .unset, .unset]) (XS.store1 rfl (Or.inl rfl) (isref_cat hva)) k_) ?_
        show Gl p e below s room_1.cells room_1.slots (fun v h L => v = some (.int 1) ∧ Fr n0 L) (T.setTop (mkF m 155 #[.val (.int p0), .val (.int p1), .val (.int p2), .val (.int p3), .val (.int p4), .val (.int p5), .val (.int d1), .val (.int d2), .val (.int se), .val (.int kq), .val va, .val vb, .val (.ref cv), .val (.int (0 : Int32)), .val va, .unset, .unset, .unset] []))
        refine Gl.by (fun t_ k_ => XS.iload X.here hx rfl (hb hby at_155) rfl k_) ?_
        show Gl p e below s room_1.cells room_1.slots (fun v h L => v = some (.int 1) ∧ Fr n0 L) (T.setTop (mkF m 157 #[.val (.int p0), .val (.int p1), .val (.int p2), .val (.int p3), .val (.int p4), .val (.int p5), .val (.int d1), .val (.int d2), .val (.int se), .val (.int kq), .val va, .val vb, .val (.ref cv), .val (.int (0 : Int32)), .val va, .unset, .unset, .unset] [(.int kq)]))
        refine Gl.by (fun t_ k_ => XS.iload X.here hx rfl (hb hby at_157) rfl k_) ?_
        show Gl p e below s room_1.cells room_1.slots (fun v h L => v = some (.int 1) ∧ Fr n0 L) (T.setTop (mkF m 159 #[.val (.int p0), .val (.int p1), .val (.int p2), .val (.int p3), .val (.int p4), .val (.int p5), .val (.int d1), .val (.int d2), .val (.int se), .val (.int kq), .val va, .val vb, .val (.ref cv), .val (.int (0 : Int32)), .val va, .unset, .unset, .unset] [(.int d2), (.int kq)]))
        refine Gl.by (fun t_ k_ => XS.icmpNo X.here hx rfl (hb hby at_159) rfl (teq k2).2 k_) ?_
        show Gl p e below s room_1.cells room_1.slots (fun v h L => v = some (.int 1) ∧ Fr n0 L) (T.setTop (mkF m 162 #[.val (.int p0), .val (.int p1), .val (.int p2), .val (.int p3), .val (.int p4), .val (.int p5), .val (.int d1), .val (.int d2), .val (.int se), .val (.int kq), .val va, .val vb, .val (.ref cv), .val (.int (0 : Int32)), .val va, .unset, .unset, .unset] []))
        refine Gl.by (fun t_ k_ => XS.aload X.here hx rfl (hb hby at_162) rfl hvb k_) ?_
        show Gl p e below s room_1.cells room_1.slots (fun v h L => v = some (.int 1) ∧ Fr n0 L) (T.setTop (mkF m 164 #[.val (.int p0), .val (.int p1), .val (.int p2), .val (.int p3), .val (.int p4), .val (.int p5), .val (.int d1), .val (.int d2), .val (.int se), .val (.int kq), .val va, .val vb, .val (.ref cv), .val (.int (0 : Int32)), .val va, .unset, .unset, .unset] [vb]))
        refine Gl.by (fun t_ k_ => XS.astore X.here hx rfl (hb hby at_164) rfl hvb (l' := #[.val (.int p0), .val (.int p1), .val (.int p2), .val (.int p3), .val (.int p4), .val (.int p5), .val (.int d1), .val (.int d2), .val (.int se), .val (.int kq), .val va, .val vb, .val (.ref cv), .val (.int (0 : Int32)), .val va, .val vb, .unset, .unset]) (XS.store1 rfl (Or.inl rfl) (isref_cat hvb)) k_) ?_
        show Gl p e below s room_1.cells room_1.slots (fun v h L => v = some (.int 1) ∧ Fr n0 L) (T.setTop (mkF m 166 #[.val (.int p0), .val (.int p1), .val (.int p2), .val (.int p3), .val (.int p4), .val (.int p5), .val (.int d1), .val (.int d2), .val (.int se), .val (.int kq), .val va, .val vb, .val (.ref cv), .val (.int (0 : Int32)), .val va, .val vb, .unset, .unset] []))
        refine Gl.by (fun t_ k_ => XS.goto X.here hx rfl (pc0 := 166) (pc' := 186) rfl (hb hby at_166) (by decide) (by decide) k_) ?_
        show Gl p e below s room_1.cells room_1.slots (fun v h L => v = some (.int 1) ∧ Fr n0 L) (T.setTop (mkF m 186 #[.val (.int p0), .val (.int p1), .val (.int p2), .val (.int p3), .val (.int p4), .val (.int p5), .val (.int d1), .val (.int d2), .val (.int se), .val (.int kq), .val va, .val vb, .val (.ref cv), .val (.int (0 : Int32)), .val va, .val vb, .unset, .unset] []))
        refine Gl.by (fun t_ k_ => XS.iload X.here hx rfl (hb hby at_186) rfl k_) ?_
        show Gl p e below s room_1.cells room_1.slots (fun v h L => v = some (.int 1) ∧ Fr n0 L) (T.setTop (mkF m 188 #[.val (.int p0), .val (.int p1), .val (.int p2), .val (.int p3), .val (.int p4), .val (.int p5), .val (.int d1), .val (.int d2), .val (.int se), .val (.int kq), .val va, .val vb, .val (.ref cv), .val (.int (0 : Int32)), .val va, .val vb, .unset, .unset] [(.int kq)]))
        refine Gl.by (fun t_ k_ => XS.iload X.here hx rfl (hb hby at_188) rfl k_) ?_
        show Gl p e below s room_1.cells room_1.slots (fun v h L => v = some (.int 1) ∧ Fr n0 L) (T.setTop (mkF m 190 #[.val (.int p0), .val (.int p1), .val (.int p2), .val (.int p3), .val (.int p4), .val (.int p5), .val (.int d1), .val (.int d2), .val (.int se), .val (.int kq), .val va, .val vb, .val (.ref cv), .val (.int (0 : Int32)), .val va, .val vb, .unset, .unset] [(.int d1), (.int kq)]))
        refine Gl.by (fun t_ k_ => XS.icmpNo X.here hx rfl (hb hby at_190) rfl (feq k1).1 k_) ?_
        show Gl p e below s room_1.cells room_1.slots (fun v h L => v = some (.int 1) ∧ Fr n0 L) (T.setTop (mkF m 193 #[.val (.int p0), .val (.int p1), .val (.int p2), .val (.int p3), .val (.int p4), .val (.int p5), .val (.int d1), .val (.int d2), .val (.int se), .val (.int kq), .val va, .val vb, .val (.ref cv), .val (.int (0 : Int32)), .val va, .val vb, .unset, .unset] []))
        refine Gl.by (fun t_ k_ => XS.iload X.here hx rfl (hb hby at_193) rfl k_) ?_
        show Gl p e below s room_1.cells room_1.slots (fun v h L => v = some (.int 1) ∧ Fr n0 L) (T.setTop (mkF m 195 #[.val (.int p0), .val (.int p1), .val (.int p2), .val (.int p3), .val (.int p4), .val (.int p5), .val (.int d1), .val (.int d2), .val (.int se), .val (.int kq), .val va, .val vb, .val (.ref cv), .val (.int (0 : Int32)), .val va, .val vb, .unset, .unset] [(.int kq)]))
        refine Gl.by (fun t_ k_ => XS.iload X.here hx rfl (hb hby at_195) rfl k_) ?_
        show Gl p e below s room_1.cells room_1.slots (fun v h L => v = some (.int 1) ∧ Fr n0 L) (T.setTop (mkF m 197 #[.val (.int p0), .val (.int p1), .val (.int p2), .val (.int p3), .val (.int p4), .val (.int p5), .val (.int d1), .val (.int d2), .val (.int se), .val (.int kq), .val va, .val vb, .val (.ref cv), .val (.int (0 : Int32)), .val va, .val vb, .unset, .unset] [(.int d2), (.int kq)]))
        refine Gl.by (fun t_ k_ => XS.icmpNo X.here hx rfl (hb hby at_197) rfl (teq k2).2 k_) ?_
        show Gl p e below s room_1.cells room_1.slots (fun v h L => v = some (.int 1) ∧ Fr n0 L) (T.setTop (mkF m 200 #[.val (.int p0), .val (.int p1), .val (.int p2), .val (.int p3), .val (.int p4), .val (.int p5), .val (.int d1), .val (.int d2), .val (.int se), .val (.int kq), .val va, .val vb, .val (.ref cv), .val (.int (0 : Int32)), .val va, .val vb, .unset, .unset] []))
        refine Gl.by (fun t_ k_ => XS.iconst X.here hx rfl (hb hby at_200) k_) ?_
        show Gl p e below s room_1.cells room_1.slots (fun v h L => v = some (.int 1) ∧ Fr n0 L) (T.setTop (mkF m 201 #[.val (.int p0), .val (.int p1), .val (.int p2), .val (.int p3), .val (.int p4), .val (.int p5), .val (.int d1), .val (.int d2), .val (.int se), .val (.int kq), .val va, .val vb, .val (.ref cv), .val (.int (0 : Int32)), .val va, .val vb, .unset, .unset] [(.int (1 : Int32))]))
        refine Gl.by (fun t_ k_ => XS.goto X.here hx rfl (pc0 := 201) (pc' := 205) rfl (hb hby at_201) (by decide) (by decide) k_) ?_
        show Gl p e below s room_1.cells room_1.slots (fun v h L => v = some (.int 1) ∧ Fr n0 L) (T.setTop (mkF m 205 #[.val (.int p0), .val (.int p1), .val (.int p2), .val (.int p3), .val (.int p4), .val (.int p5), .val (.int d1), .val (.int d2), .val (.int se), .val (.int kq), .val va, .val vb, .val (.ref cv), .val (.int (0 : Int32)), .val va, .val vb, .unset, .unset] [(.int (1 : Int32))]))
        refine Gl.by (fun t_ k_ => XS.istore X.here hx rfl (hb hby at_205) rfl (l' := #[.val (.int p0), .val (.int p1), .val (.int p2), .val (.int p3), .val (.int p4), .val (.int p5), .val (.int d1), .val (.int d2), .val (.int se), .val (.int kq), .val va, .val vb, .val (.ref cv), .val (.int (0 : Int32)), .val va, .val vb, .val (.int (1 : Int32)), .unset]) rfl k_) ?_
        show Gl p e below s room_1.cells room_1.slots (fun v h L => v = some (.int 1) ∧ Fr n0 L) (T.setTop (mkF m 207 #[.val (.int p0), .val (.int p1), .val (.int p2), .val (.int p3), .val (.int p4), .val (.int p5), .val (.int d1), .val (.int d2), .val (.int se), .val (.int kq), .val va, .val vb, .val (.ref cv), .val (.int (0 : Int32)), .val va, .val vb, .val (.int (1 : Int32)), .unset] []))
        refine Gl.by (fun t_ k_ => XS.iload X.here hx rfl (hb hby at_207) rfl k_) ?_
        show Gl p e below s room_1.cells room_1.slots (fun v h L => v = some (.int 1) ∧ Fr n0 L) (T.setTop (mkF m 209 #[.val (.int p0), .val (.int p1), .val (.int p2), .val (.int p3), .val (.int p4), .val (.int p5), .val (.int d1), .val (.int d2), .val (.int se), .val (.int kq), .val va, .val vb, .val (.ref cv), .val (.int (0 : Int32)), .val va, .val vb, .val (.int (1 : Int32)), .unset] [(.int (0 : Int32))]))
        refine Gl.by (fun t_ k_ => XS.ifYes X.here hx rfl (pc0 := 209) (pc' := 216) rfl (hb hby at_209) rfl ((if0 _ _).trans (teq (by decide : (0 : Int32) = (0 : Int32))).1) (by decide) (by decide) k_) ?_
        show Gl p e below s room_1.cells room_1.slots (fun v h L => v = some (.int 1) ∧ Fr n0 L) (T.setTop (mkF m 216 #[.val (.int p0), .val (.int p1), .val (.int p2), .val (.int p3), .val (.int p4), .val (.int p5), .val (.int d1), .val (.int d2), .val (.int se), .val (.int kq), .val va, .val vb, .val (.ref cv), .val (.int (0 : Int32)), .val va, .val vb, .val (.int (1 : Int32)), .unset] []))
        refine Gl.by (fun t_ k_ => XS.iconst X.here hx rfl (hb hby at_216) k_) ?_
        show Gl p e below s room_1.cells room_1.slots (fun v h L => v = some (.int 1) ∧ Fr n0 L) (T.setTop (mkF m 217 #[.val (.int p0), .val (.int p1), .val (.int p2), .val (.int p3), .val (.int p4), .val (.int p5), .val (.int d1), .val (.int d2), .val (.int se), .val (.int kq), .val va, .val vb, .val (.ref cv), .val (.int (0 : Int32)), .val va, .val vb, .val (.int (1 : Int32)), .unset] [(.int (2 : Int32))]))
        refine Gl.by (fun t_ k_ => XS.istore X.here hx rfl (hb hby at_217) rfl (l' := #[.val (.int p0), .val (.int p1), .val (.int p2), .val (.int p3), .val (.int p4), .val (.int p5), .val (.int d1), .val (.int d2), .val (.int se), .val (.int kq), .val va, .val vb, .val (.ref cv), .val (.int (0 : Int32)), .val va, .val vb, .val (.int (1 : Int32)), .val (.int (2 : Int32))]) rfl k_) ?_
        show Gl p e below s room_1.cells room_1.slots (fun v h L => v = some (.int 1) ∧ Fr n0 L) (T.setTop (mkF m 219 #[.val (.int p0), .val (.int p1), .val (.int p2), .val (.int p3), .val (.int p4), .val (.int p5), .val (.int d1), .val (.int d2), .val (.int se), .val (.int kq), .val va, .val vb, .val (.ref cv), .val (.int (0 : Int32)), .val va, .val vb, .val (.int (1 : Int32)), .val (.int (2 : Int32))] []))
        exact j219 h8 d1 d2 se kq _ _ cv t _ va vb va vb (fun q => if q = d2 then some vb else if q = d1 then some va else none) T _ (wider X (by decide) (by decide)) N eT hva hvb hva hvb (O2.keep K8 (allS (by omega) (allS (by omega) all0))) (by omega) (((A5.keep K6).keep K7).keep K8) ((Fv6.keep K7 (ninS (ne_exa (A5.keep K6) F6.1 (by decide)) nin0)).keep K8 (ninS (ne_exa ((A5.keep K6).keep K7) (F6.1.keep K7) (by decide)) (ninS (ne_exa ((A5.keep K6).keep K7) F7.choose_spec.2.1 (by decide)) nin0))) F8.mp (by decide) (by show Option.getD (if d1 = d2 then some vb else if d1 = d1 then some va else none) Value.null = _; rw [if_neg (fun z => c3 z.symm), if_pos rfl]; rfl) (by show Option.getD (if d2 = d2 then some vb else if d2 = d1 then some va else none) Value.null = _; rw [if_pos rfl]; rfl) (by show Option.getD (if kq = d2 then some vb else if kq = d1 then some va else none) Value.null = _; rw [if_pos k2]; rfl) (by show (if (if kq = d2 then some vb else if kq = d1 then some va else none).isSome = true then (1 : Int32) else 0) = _; rw [if_pos k2]; rfl)
      · by_cases k1 : kq = d1
        · refine Gl.by (fun t_ k_ => XS.iload X.here hx rfl (hb hby at_127) rfl k_) ?_
          show Gl p e below s room_1.cells room_1.slots (fun v h L => v = some (.int 1) ∧ Fr n0 L) (T.setTop (mkF m 129 #[.val (.int p0), .val (.int p1), .val (.int p2), .val (.int p3), .val (.int p4), .val (.int p5), .val (.int d1), .val (.int d2), .val (.int se), .val (.int kq), .val va, .val vb, .val (.ref cv), .unset, .unset, .unset, .unset, .unset] [(.int d1)]))
          refine Gl.by (fun t_ k_ => XS.iload X.here hx rfl (hb hby at_129) rfl k_) ?_
          show Gl p e below s room_1.cells room_1.slots (fun v h L => v = some (.int 1) ∧ Fr n0 L) (T.setTop (mkF m 131 #[.val (.int p0), .val (.int p1), .val (.int p2), .val (.int p3), .val (.int p4), .val (.int p5), .val (.int d1), .val (.int d2), .val (.int se), .val (.int kq), .val va, .val vb, .val (.ref cv), .unset, .unset, .unset, .unset, .unset] [(.int d2), (.int d1)]))
          refine Gl.by (fun t_ k_ => XS.icmpYes X.here hx rfl (pc0 := 131) (pc' := 138) rfl (hb hby at_131) rfl (feq (fun z => c3 z.symm)).2 (by decide) (by decide) k_) ?_
          show Gl p e below s room_1.cells room_1.slots (fun v h L => v = some (.int 1) ∧ Fr n0 L) (T.setTop (mkF m 138 #[.val (.int p0), .val (.int p1), .val (.int p2), .val (.int p3), .val (.int p4), .val (.int p5), .val (.int d1), .val (.int d2), .val (.int se), .val (.int kq), .val va, .val vb, .val (.ref cv), .unset, .unset, .unset, .unset, .unset] []))
          refine Gl.by (fun t_ k_ => XS.iconst X.here hx rfl (hb hby at_138) k_) ?_
          show Gl p e below s room_1.cells room_1.slots (fun v h L => v = some (.int 1) ∧ Fr n0 L) (T.setTop (mkF m 139 #[.val (.int p0), .val (.int p1), .val (.int p2), .val (.int p3), .val (.int p4), .val (.int p5), .val (.int d1), .val (.int d2), .val (.int se), .val (.int kq), .val va, .val vb, .val (.ref cv), .unset, .unset, .unset, .unset, .unset] [(.int (0 : Int32))]))
          refine Gl.by (fun t_ k_ => XS.istore X.here hx rfl (hb hby at_139) rfl (l' := #[.val (.int p0), .val (.int p1), .val (.int p2), .val (.int p3), .val (.int p4), .val (.int p5), .val (.int d1), .val (.int d2), .val (.int se), .val (.int kq), .val va, .val vb, .val (.ref cv), .val (.int (0 : Int32)), .unset, .unset, .unset, .unset]) rfl k_) ?_
          show Gl p e below s room_1.cells room_1.slots (fun v h L => v = some (.int 1) ∧ Fr n0 L) (T.setTop (mkF m 141 #[.val (.int p0), .val (.int p1), .val (.int p2), .val (.int p3), .val (.int p4), .val (.int p5), .val (.int d1), .val (.int d2), .val (.int se), .val (.int kq), .val va, .val vb, .val (.ref cv), .val (.int (0 : Int32)), .unset, .unset, .unset, .unset] []))
          refine Gl.by (fun t_ k_ => XS.iload X.here hx rfl (hb hby at_141) rfl k_) ?_
          show Gl p e below s room_1.cells room_1.slots (fun v h L => v = some (.int 1) ∧ Fr n0 L) (T.setTop (mkF m 143 #[.val (.int p0), .val (.int p1), .val (.int p2), .val (.int p3), .val (.int p4), .val (.int p5), .val (.int d1), .val (.int d2), .val (.int se), .val (.int kq), .val va, .val vb, .val (.ref cv), .val (.int (0 : Int32)), .unset, .unset, .unset, .unset] [(.int (0 : Int32))]))
          refine Gl.by (fun t_ k_ => XS.ifYes X.here hx rfl (pc0 := 143) (pc' := 151) rfl (hb hby at_143) rfl ((if0 _ _).trans (teq (by decide : (0 : Int32) = (0 : Int32))).1) (by decide) (by decide) k_) ?_
          show Gl p e below s room_1.cells room_1.slots (fun v h L => v = some (.int 1) ∧ Fr n0 L) (T.setTop (mkF m 151 #[.val (.int p0), .val (.int p1), .val (.int p2), .val (.int p3), .val (.int p4), .val (.int p5), .val (.int d1), .val (.int d2), .val (.int se), .val (.int kq), .val va, .val vb, .val (.ref cv), .val (.int (0 : Int32)), .unset, .unset, .unset, .unset] []))
          refine Gl.by (fun t_ k_ => XS.aload X.here hx rfl (hb hby at_151) rfl hva k_) ?_
          show Gl p e below s room_1.cells room_1.slots (fun v h L => v = some (.int 1) ∧ Fr n0 L) (T.setTop (mkF m 153 #[.val (.int p0), .val (.int p1), .val (.int p2), .val (.int p3), .val (.int p4), .val (.int p5), .val (.int d1), .val (.int d2), .val (.int se), .val (.int kq), .val va, .val vb, .val (.ref cv), .val (.int (0 : Int32)), .unset, .unset, .unset, .unset] [va]))
          refine Gl.by (fun t_ k_ => XS.astore X.here hx rfl (hb hby at_153) rfl hva (l' := #[.val (.int p0), .val (.int p1), .val (.int p2), .val (.int p3), .val (.int p4), .val (.int p5), .val (.int d1), .val (.int d2), .val (.int se), .val (.int kq), .val va, .val vb, .val (.ref cv), .val (.int (0 : Int32)), .val va, .unset, .unset, .unset]) (XS.store1 rfl (Or.inl rfl) (isref_cat hva)) k_) ?_
          show Gl p e below s room_1.cells room_1.slots (fun v h L => v = some (.int 1) ∧ Fr n0 L) (T.setTop (mkF m 155 #[.val (.int p0), .val (.int p1), .val (.int p2), .val (.int p3), .val (.int p4), .val (.int p5), .val (.int d1), .val (.int d2), .val (.int se), .val (.int kq), .val va, .val vb, .val (.ref cv), .val (.int (0 : Int32)), .val va, .unset, .unset, .unset] []))
          refine Gl.by (fun t_ k_ => XS.iload X.here hx rfl (hb hby at_155) rfl k_) ?_
          show Gl p e below s room_1.cells room_1.slots (fun v h L => v = some (.int 1) ∧ Fr n0 L) (T.setTop (mkF m 157 #[.val (.int p0), .val (.int p1), .val (.int p2), .val (.int p3), .val (.int p4), .val (.int p5), .val (.int d1), .val (.int d2), .val (.int se), .val (.int kq), .val va, .val vb, .val (.ref cv), .val (.int (0 : Int32)), .val va, .unset, .unset, .unset] [(.int kq)]))
          refine Gl.by (fun t_ k_ => XS.iload X.here hx rfl (hb hby at_157) rfl k_) ?_
          show Gl p e below s room_1.cells room_1.slots (fun v h L => v = some (.int 1) ∧ Fr n0 L) (T.setTop (mkF m 159 #[.val (.int p0), .val (.int p1), .val (.int p2), .val (.int p3), .val (.int p4), .val (.int p5), .val (.int d1), .val (.int d2), .val (.int se), .val (.int kq), .val va, .val vb, .val (.ref cv), .val (.int (0 : Int32)), .val va, .unset, .unset, .unset] [(.int d2), (.int kq)]))
          refine Gl.by (fun t_ k_ => XS.icmpYes X.here hx rfl (pc0 := 159) (pc' := 169) rfl (hb hby at_159) rfl (feq k2).2 (by decide) (by decide) k_) ?_
          show Gl p e below s room_1.cells room_1.slots (fun v h L => v = some (.int 1) ∧ Fr n0 L) (T.setTop (mkF m 169 #[.val (.int p0), .val (.int p1), .val (.int p2), .val (.int p3), .val (.int p4), .val (.int p5), .val (.int d1), .val (.int d2), .val (.int se), .val (.int kq), .val va, .val vb, .val (.ref cv), .val (.int (0 : Int32)), .val va, .unset, .unset, .unset] []))
          refine Gl.by (fun t_ k_ => XS.iload X.here hx rfl (hb hby at_169) rfl k_) ?_
          show Gl p e below s room_1.cells room_1.slots (fun v h L => v = some (.int 1) ∧ Fr n0 L) (T.setTop (mkF m 171 #[.val (.int p0), .val (.int p1), .val (.int p2), .val (.int p3), .val (.int p4), .val (.int p5), .val (.int d1), .val (.int d2), .val (.int se), .val (.int kq), .val va, .val vb, .val (.ref cv), .val (.int (0 : Int32)), .val va, .unset, .unset, .unset] [(.int kq)]))
          refine Gl.by (fun t_ k_ => XS.iload X.here hx rfl (hb hby at_171) rfl k_) ?_
          show Gl p e below s room_1.cells room_1.slots (fun v h L => v = some (.int 1) ∧ Fr n0 L) (T.setTop (mkF m 173 #[.val (.int p0), .val (.int p1), .val (.int p2), .val (.int p3), .val (.int p4), .val (.int p5), .val (.int d1), .val (.int d2), .val (.int se), .val (.int kq), .val va, .val vb, .val (.ref cv), .val (.int (0 : Int32)), .val va, .unset, .unset, .unset] [(.int d1), (.int kq)]))
          refine Gl.by (fun t_ k_ => XS.icmpNo X.here hx rfl (hb hby at_173) rfl (teq k1).2 k_) ?_
          show Gl p e below s room_1.cells room_1.slots (fun v h L => v = some (.int 1) ∧ Fr n0 L) (T.setTop (mkF m 176 #[.val (.int p0), .val (.int p1), .val (.int p2), .val (.int p3), .val (.int p4), .val (.int p5), .val (.int d1), .val (.int d2), .val (.int se), .val (.int kq), .val va, .val vb, .val (.ref cv), .val (.int (0 : Int32)), .val va, .unset, .unset, .unset] []))
          refine Gl.by (fun t_ k_ => XS.aload X.here hx rfl (hb hby at_176) rfl hva k_) ?_
          show Gl p e below s room_1.cells room_1.slots (fun v h L => v = some (.int 1) ∧ Fr n0 L) (T.setTop (mkF m 178 #[.val (.int p0), .val (.int p1), .val (.int p2), .val (.int p3), .val (.int p4), .val (.int p5), .val (.int d1), .val (.int d2), .val (.int se), .val (.int kq), .val va, .val vb, .val (.ref cv), .val (.int (0 : Int32)), .val va, .unset, .unset, .unset] [va]))
          refine Gl.by (fun t_ k_ => XS.astore X.here hx rfl (hb hby at_178) rfl hva (l' := #[.val (.int p0), .val (.int p1), .val (.int p2), .val (.int p3), .val (.int p4), .val (.int p5), .val (.int d1), .val (.int d2), .val (.int se), .val (.int kq), .val va, .val vb, .val (.ref cv), .val (.int (0 : Int32)), .val va, .val va, .unset, .unset]) (XS.store1 rfl (Or.inl rfl) (isref_cat hva)) k_) ?_
          show Gl p e below s room_1.cells room_1.slots (fun v h L => v = some (.int 1) ∧ Fr n0 L) (T.setTop (mkF m 180 #[.val (.int p0), .val (.int p1), .val (.int p2), .val (.int p3), .val (.int p4), .val (.int p5), .val (.int d1), .val (.int d2), .val (.int se), .val (.int kq), .val va, .val vb, .val (.ref cv), .val (.int (0 : Int32)), .val va, .val va, .unset, .unset] []))
          refine Gl.by (fun t_ k_ => XS.goto X.here hx rfl (pc0 := 180) (pc' := 186) rfl (hb hby at_180) (by decide) (by decide) k_) ?_
          show Gl p e below s room_1.cells room_1.slots (fun v h L => v = some (.int 1) ∧ Fr n0 L) (T.setTop (mkF m 186 #[.val (.int p0), .val (.int p1), .val (.int p2), .val (.int p3), .val (.int p4), .val (.int p5), .val (.int d1), .val (.int d2), .val (.int se), .val (.int kq), .val va, .val vb, .val (.ref cv), .val (.int (0 : Int32)), .val va, .val va, .unset, .unset] []))
          refine Gl.by (fun t_ k_ => XS.iload X.here hx rfl (hb hby at_186) rfl k_) ?_
          show Gl p e below s room_1.cells room_1.slots (fun v h L => v = some (.int 1) ∧ Fr n0 L) (T.setTop (mkF m 188 #[.val (.int p0), .val (.int p1), .val (.int p2), .val (.int p3), .val (.int p4), .val (.int p5), .val (.int d1), .val (.int d2), .val (.int se), .val (.int kq), .val va, .val vb, .val (.ref cv), .val (.int (0 : Int32)), .val va, .val va, .unset, .unset] [(.int kq)]))
          refine Gl.by (fun t_ k_ => XS.iload X.here hx rfl (hb hby at_188) rfl k_) ?_
          show Gl p e below s room_1.cells room_1.slots (fun v h L => v = some (.int 1) ∧ Fr n0 L) (T.setTop (mkF m 190 #[.val (.int p0), .val (.int p1), .val (.int p2), .val (.int p3), .val (.int p4), .val (.int p5), .val (.int d1), .val (.int d2), .val (.int se), .val (.int kq), .val va, .val vb, .val (.ref cv), .val (.int (0 : Int32)), .val va, .val va, .unset, .unset] [(.int d1), (.int kq)]))
          refine Gl.by (fun t_ k_ => XS.icmpYes X.here hx rfl (pc0 := 190) (pc' := 200) rfl (hb hby at_190) rfl (teq k1).1 (by decide) (by decide) k_) ?_
          show Gl p e below s room_1.cells room_1.slots (fun v h L => v = some (.int 1) ∧ Fr n0 L) (T.setTop (mkF m 200 #[.val (.int p0), .val (.int p1), .val (.int p2), .val (.int p3), .val (.int p4), .val (.int p5), .val (.int d1), .val (.int d2), .val (.int se), .val (.int kq), .val va, .val vb, .val (.ref cv), .val (.int (0 : Int32)), .val va, .val va, .unset, .unset] []))
          refine Gl.by (fun t_ k_ => XS.iconst X.here hx rfl (hb hby at_200) k_) ?_
          show Gl p e below s room_1.cells room_1.slots (fun v h L => v = some (.int 1) ∧ Fr n0 L) (T.setTop (mkF m 201 #[.val (.int p0), .val (.int p1), .val (.int p2), .val (.int p3), .val (.int p4), .val (.int p5), .val (.int d1), .val (.int d2), .val (.int se), .val (.int kq), .val va, .val vb, .val (.ref cv), .val (.int (0 : Int32)), .val va, .val va, .unset, .unset] [(.int (1 : Int32))]))
          refine Gl.by (fun t_ k_ => XS.goto X.here hx rfl (pc0 := 201) (pc' := 205) rfl (hb hby at_201) (by decide) (by decide) k_) ?_
          show Gl p e below s room_1.cells room_1.slots (fun v h L => v = some (.int 1) ∧ Fr n0 L) (T.setTop (mkF m 205 #[.val (.int p0), .val (.int p1), .val (.int p2), .val (.int p3), .val (.int p4), .val (.int p5), .val (.int d1), .val (.int d2), .val (.int se), .val (.int kq), .val va, .val vb, .val (.ref cv), .val (.int (0 : Int32)), .val va, .val va, .unset, .unset] [(.int (1 : Int32))]))
          refine Gl.by (fun t_ k_ => XS.istore X.here hx rfl (hb hby at_205) rfl (l' := #[.val (.int p0), .val (.int p1), .val (.int p2), .val (.int p3), .val (.int p4), .val (.int p5), .val (.int d1), .val (.int d2), .val (.int se), .val (.int kq), .val va, .val vb, .val (.ref cv), .val (.int (0 : Int32)), .val va, .val va, .val (.int (1 : Int32)), .unset]) rfl k_) ?_
          show Gl p e below s room_1.cells room_1.slots (fun v h L => v = some (.int 1) ∧ Fr n0 L) (T.setTop (mkF m 207 #[.val (.int p0), .val (.int p1), .val (.int p2), .val (.int p3), .val (.int p4), .val (.int p5), .val (.int d1), .val (.int d2), .val (.int se), .val (.int kq), .val va, .val vb, .val (.ref cv), .val (.int (0 : Int32)), .val va, .val va, .val (.int (1 : Int32)), .unset] []))
          refine Gl.by (fun t_ k_ => XS.iload X.here hx rfl (hb hby at_207) rfl k_) ?_
          show Gl p e below s room_1.cells room_1.slots (fun v h L => v = some (.int 1) ∧ Fr n0 L) (T.setTop (mkF m 209 #[.val (.int p0), .val (.int p1), .val (.int p2), .val (.int p3), .val (.int p4), .val (.int p5), .val (.int d1), .val (.int d2), .val (.int se), .val (.int kq), .val va, .val vb, .val (.ref cv), .val (.int (0 : Int32)), .val va, .val va, .val (.int (1 : Int32)), .unset] [(.int (0 : Int32))]))
          refine Gl.by (fun t_ k_ => XS.ifYes X.here hx rfl (pc0 := 209) (pc' := 216) rfl (hb hby at_209) rfl ((if0 _ _).trans (teq (by decide : (0 : Int32) = (0 : Int32))).1) (by decide) (by decide) k_) ?_
          show Gl p e below s room_1.cells room_1.slots (fun v h L => v = some (.int 1) ∧ Fr n0 L) (T.setTop (mkF m 216 #[.val (.int p0), .val (.int p1), .val (.int p2), .val (.int p3), .val (.int p4), .val (.int p5), .val (.int d1), .val (.int d2), .val (.int se), .val (.int kq), .val va, .val vb, .val (.ref cv), .val (.int (0 : Int32)), .val va, .val va, .val (.int (1 : Int32)), .unset] []))
          refine Gl.by (fun t_ k_ => XS.iconst X.here hx rfl (hb hby at_216) k_) ?_
          show Gl p e below s room_1.cells room_1.slots (fun v h L => v = some (.int 1) ∧ Fr n0 L) (T.setTop (mkF m 217 #[.val (.int p0), .val (.int p1), .val (.int p2), .val (.int p3), .val (.int p4), .val (.int p5), .val (.int d1), .val (.int d2), .val (.int se), .val (.int kq), .val va, .val vb, .val (.ref cv), .val (.int (0 : Int32)), .val va, .val va, .val (.int (1 : Int32)), .unset] [(.int (2 : Int32))]))
          refine Gl.by (fun t_ k_ => XS.istore X.here hx rfl (hb hby at_217) rfl (l' := #[.val (.int p0), .val (.int p1), .val (.int p2), .val (.int p3), .val (.int p4), .val (.int p5), .val (.int d1), .val (.int d2), .val (.int se), .val (.int kq), .val va, .val vb, .val (.ref cv), .val (.int (0 : Int32)), .val va, .val va, .val (.int (1 : Int32)), .val (.int (2 : Int32))]) rfl k_) ?_
          show Gl p e below s room_1.cells room_1.slots (fun v h L => v = some (.int 1) ∧ Fr n0 L) (T.setTop (mkF m 219 #[.val (.int p0), .val (.int p1), .val (.int p2), .val (.int p3), .val (.int p4), .val (.int p5), .val (.int d1), .val (.int d2), .val (.int se), .val (.int kq), .val va, .val vb, .val (.ref cv), .val (.int (0 : Int32)), .val va, .val va, .val (.int (1 : Int32)), .val (.int (2 : Int32))] []))
          exact j219 h8 d1 d2 se kq _ _ cv t _ va vb va va (fun q => if q = d2 then some vb else if q = d1 then some va else none) T _ (wider X (by decide) (by decide)) N eT hva hvb hva hva (O2.keep K8 (allS (by omega) (allS (by omega) all0))) (by omega) (((A5.keep K6).keep K7).keep K8) ((Fv6.keep K7 (ninS (ne_exa (A5.keep K6) F6.1 (by decide)) nin0)).keep K8 (ninS (ne_exa ((A5.keep K6).keep K7) (F6.1.keep K7) (by decide)) (ninS (ne_exa ((A5.keep K6).keep K7) F7.choose_spec.2.1 (by decide)) nin0))) F8.mp (by decide) (by show Option.getD (if d1 = d2 then some vb else if d1 = d1 then some va else none) Value.null = _; rw [if_neg (fun z => c3 z.symm), if_pos rfl]; rfl) (by show Option.getD (if d2 = d2 then some vb else if d2 = d1 then some va else none) Value.null = _; rw [if_pos rfl]; rfl) (by show Option.getD (if kq = d2 then some vb else if kq = d1 then some va else none) Value.null = _; rw [if_neg k2, if_pos k1]; rfl) (by show (if (if kq = d2 then some vb else if kq = d1 then some va else none).isSome = true then (1 : Int32) else 0) = _; rw [if_neg k2, if_pos k1]; rfl)
        · refine Gl.by (fun t_ k_ => XS.iload X.here hx rfl (hb hby at_127) rfl k_) ?_
          show Gl p e below s room_1.cells room_1.slots (fun v h L => v = some (.int 1) ∧ Fr n0 L) (T.setTop (mkF m 129 #[.val (.int p0), .val (.int p1), .val (.int p2), .val (.int p3), .val (.int p4), .val (.int p5), .val (.int d1), .val (.int d2), .val (.int se), .val (.int kq), .val va, .val vb, .val (.ref cv), .unset, .unset, .unset, .unset, .unset] [(.int d1)]))
          refine Gl.by (fun t_ k_ => XS.iload X.here hx rfl (hb hby at_129) rfl k_) ?_
          show Gl p e below s room_1.cells room_1.slots (fun v h L => v = some (.int 1) ∧ Fr n0 L) (T.setTop (mkF m 131 #[.val (.int p0), .val (.int p1), .val (.int p2), .val (.int p3), .val (.int p4), .val (.int p5), .val (.int d1), .val (.int d2), .val (.int se), .val (.int kq), .val va, .val vb, .val (.ref cv), .unset, .unset, .unset, .unset, .unset] [(.int d2), (.int d1)]))
          refine Gl.by (fun t_ k_ => XS.icmpYes X.here hx rfl (pc0 := 131) (pc' := 138) rfl (hb hby at_131) rfl (feq (fun z => c3 z.symm)).2 (by decide) (by decide) k_) ?_
          show Gl p e below s room_1.cells room_1.slots (fun v h L => v = some (.int 1) ∧ Fr n0 L) (T.setTop (mkF m 138 #[.val (.int p0), .val (.int p1), .val (.int p2), .val (.int p3), .val (.int p4), .val (.int p5), .val (.int d1), .val (.int d2), .val (.int se), .val (.int kq), .val va, .val vb, .val (.ref cv), .unset, .unset, .unset, .unset, .unset] []))
          refine Gl.by (fun t_ k_ => XS.iconst X.here hx rfl (hb hby at_138) k_) ?_
          show Gl p e below s room_1.cells room_1.slots (fun v h L => v = some (.int 1) ∧ Fr n0 L) (T.setTop (mkF m 139 #[.val (.int p0), .val (.int p1), .val (.int p2), .val (.int p3), .val (.int p4), .val (.int p5), .val (.int d1), .val (.int d2), .val (.int se), .val (.int kq), .val va, .val vb, .val (.ref cv), .unset, .unset, .unset, .unset, .unset] [(.int (0 : Int32))]))
          refine Gl.by (fun t_ k_ => XS.istore X.here hx rfl (hb hby at_139) rfl (l' := #[.val (.int p0), .val (.int p1), .val (.int p2), .val (.int p3), .val (.int p4), .val (.int p5), .val (.int d1), .val (.int d2), .val (.int se), .val (.int kq), .val va, .val vb, .val (.ref cv), .val (.int (0 : Int32)), .unset, .unset, .unset, .unset]) rfl k_) ?_
          show Gl p e below s room_1.cells room_1.slots (fun v h L => v = some (.int 1) ∧ Fr n0 L) (T.setTop (mkF m 141 #[.val (.int p0), .val (.int p1), .val (.int p2), .val (.int p3), .val (.int p4), .val (.int p5), .val (.int d1), .val (.int d2), .val (.int se), .val (.int kq), .val va, .val vb, .val (.ref cv), .val (.int (0 : Int32)), .unset, .unset, .unset, .unset] []))
          refine Gl.by (fun t_ k_ => XS.iload X.here hx rfl (hb hby at_141) rfl k_) ?_
          show Gl p e below s room_1.cells room_1.slots (fun v h L => v = some (.int 1) ∧ Fr n0 L) (T.setTop (mkF m 143 #[.val (.int p0), .val (.int p1), .val (.int p2), .val (.int p3), .val (.int p4), .val (.int p5), .val (.int d1), .val (.int d2), .val (.int se), .val (.int kq), .val va, .val vb, .val (.ref cv), .val (.int (0 : Int32)), .unset, .unset, .unset, .unset] [(.int (0 : Int32))]))
          refine Gl.by (fun t_ k_ => XS.ifYes X.here hx rfl (pc0 := 143) (pc' := 151) rfl (hb hby at_143) rfl ((if0 _ _).trans (teq (by decide : (0 : Int32) = (0 : Int32))).1) (by decide) (by decide) k_) ?_
          show Gl p e below s room_1.cells room_1.slots (fun v h L => v = some (.int 1) ∧ Fr n0 L) (T.setTop (mkF m 151 #[.val (.int p0), .val (.int p1), .val (.int p2), .val (.int p3), .val (.int p4), .val (.int p5), .val (.int d1), .val (.int d2), .val (.int se), .val (.int kq), .val va, .val vb, .val (.ref cv), .val (.int (0 : Int32)), .unset, .unset, .unset, .unset] []))
          refine Gl.by (fun t_ k_ => XS.aload X.here hx rfl (hb hby at_151) rfl hva k_) ?_
          show Gl p e below s room_1.cells room_1.slots (fun v h L => v = some (.int 1) ∧ Fr n0 L) (T.setTop (mkF m 153 #[.val (.int p0), .val (.int p1), .val (.int p2), .val (.int p3), .val (.int p4), .val (.int p5), .val (.int d1), .val (.int d2), .val (.int se), .val (.int kq), .val va, .val vb, .val (.ref cv), .val (.int (0 : Int32)), .unset, .unset, .unset, .unset] [va]))
          refine Gl.by (fun t_ k_ => XS.astore X.here hx rfl (hb hby at_153) rfl hva (l' := #[.val (.int p0), .val (.int p1), .val (.int p2), .val (.int p3), .val (.int p4), .val (.int p5), .val (.int d1), .val (.int d2), .val (.int se), .val (.int kq), .val va, .val vb, .val (.ref cv), .val (.int (0 : Int32)), .val va, .unset, .unset, .unset]) (XS.store1 rfl (Or.inl rfl) (isref_cat hva)) k_) ?_
          show Gl p e below s room_1.cells room_1.slots (fun v h L => v = some (.int 1) ∧ Fr n0 L) (T.setTop (mkF m 155 #[.val (.int p0), .val (.int p1), .val (.int p2), .val (.int p3), .val (.int p4), .val (.int p5), .val (.int d1), .val (.int d2), .val (.int se), .val (.int kq), .val va, .val vb, .val (.ref cv), .val (.int (0 : Int32)), .val va, .unset, .unset, .unset] []))
          refine Gl.by (fun t_ k_ => XS.iload X.here hx rfl (hb hby at_155) rfl k_) ?_
          show Gl p e below s room_1.cells room_1.slots (fun v h L => v = some (.int 1) ∧ Fr n0 L) (T.setTop (mkF m 157 #[.val (.int p0), .val (.int p1), .val (.int p2), .val (.int p3), .val (.int p4), .val (.int p5), .val (.int d1), .val (.int d2), .val (.int se), .val (.int kq), .val va, .val vb, .val (.ref cv), .val (.int (0 : Int32)), .val va, .unset, .unset, .unset] [(.int kq)]))
          refine Gl.by (fun t_ k_ => XS.iload X.here hx rfl (hb hby at_157) rfl k_) ?_
          show Gl p e below s room_1.cells room_1.slots (fun v h L => v = some (.int 1) ∧ Fr n0 L) (T.setTop (mkF m 159 #[.val (.int p0), .val (.int p1), .val (.int p2), .val (.int p3), .val (.int p4), .val (.int p5), .val (.int d1), .val (.int d2), .val (.int se), .val (.int kq), .val va, .val vb, .val (.ref cv), .val (.int (0 : Int32)), .val va, .unset, .unset, .unset] [(.int d2), (.int kq)]))
          refine Gl.by (fun t_ k_ => XS.icmpYes X.here hx rfl (pc0 := 159) (pc' := 169) rfl (hb hby at_159) rfl (feq k2).2 (by decide) (by decide) k_) ?_
          show Gl p e below s room_1.cells room_1.slots (fun v h L => v = some (.int 1) ∧ Fr n0 L) (T.setTop (mkF m 169 #[.val (.int p0), .val (.int p1), .val (.int p2), .val (.int p3), .val (.int p4), .val (.int p5), .val (.int d1), .val (.int d2), .val (.int se), .val (.int kq), .val va, .val vb, .val (.ref cv), .val (.int (0 : Int32)), .val va, .unset, .unset, .unset] []))
          refine Gl.by (fun t_ k_ => XS.iload X.here hx rfl (hb hby at_169) rfl k_) ?_
          show Gl p e below s room_1.cells room_1.slots (fun v h L => v = some (.int 1) ∧ Fr n0 L) (T.setTop (mkF m 171 #[.val (.int p0), .val (.int p1), .val (.int p2), .val (.int p3), .val (.int p4), .val (.int p5), .val (.int d1), .val (.int d2), .val (.int se), .val (.int kq), .val va, .val vb, .val (.ref cv), .val (.int (0 : Int32)), .val va, .unset, .unset, .unset] [(.int kq)]))
          refine Gl.by (fun t_ k_ => XS.iload X.here hx rfl (hb hby at_171) rfl k_) ?_
          show Gl p e below s room_1.cells room_1.slots (fun v h L => v = some (.int 1) ∧ Fr n0 L) (T.setTop (mkF m 173 #[.val (.int p0), .val (.int p1), .val (.int p2), .val (.int p3), .val (.int p4), .val (.int p5), .val (.int d1), .val (.int d2), .val (.int se), .val (.int kq), .val va, .val vb, .val (.ref cv), .val (.int (0 : Int32)), .val va, .unset, .unset, .unset] [(.int d1), (.int kq)]))
          refine Gl.by (fun t_ k_ => XS.icmpYes X.here hx rfl (pc0 := 173) (pc' := 183) rfl (hb hby at_173) rfl (feq k1).2 (by decide) (by decide) k_) ?_
          show Gl p e below s room_1.cells room_1.slots (fun v h L => v = some (.int 1) ∧ Fr n0 L) (T.setTop (mkF m 183 #[.val (.int p0), .val (.int p1), .val (.int p2), .val (.int p3), .val (.int p4), .val (.int p5), .val (.int d1), .val (.int d2), .val (.int se), .val (.int kq), .val va, .val vb, .val (.ref cv), .val (.int (0 : Int32)), .val va, .unset, .unset, .unset] []))
          refine Gl.by (fun t_ k_ => XS.aconstNull X.here hx rfl (hb hby at_183) k_) ?_
          show Gl p e below s room_1.cells room_1.slots (fun v h L => v = some (.int 1) ∧ Fr n0 L) (T.setTop (mkF m 184 #[.val (.int p0), .val (.int p1), .val (.int p2), .val (.int p3), .val (.int p4), .val (.int p5), .val (.int d1), .val (.int d2), .val (.int se), .val (.int kq), .val va, .val vb, .val (.ref cv), .val (.int (0 : Int32)), .val va, .unset, .unset, .unset] [.null]))
          refine Gl.by (fun t_ k_ => XS.astore X.here hx rfl (hb hby at_184) rfl rfl (l' := #[.val (.int p0), .val (.int p1), .val (.int p2), .val (.int p3), .val (.int p4), .val (.int p5), .val (.int d1), .val (.int d2), .val (.int se), .val (.int kq), .val va, .val vb, .val (.ref cv), .val (.int (0 : Int32)), .val va, .val .null, .unset, .unset]) rfl k_) ?_
          show Gl p e below s room_1.cells room_1.slots (fun v h L => v = some (.int 1) ∧ Fr n0 L) (T.setTop (mkF m 186 #[.val (.int p0), .val (.int p1), .val (.int p2), .val (.int p3), .val (.int p4), .val (.int p5), .val (.int d1), .val (.int d2), .val (.int se), .val (.int kq), .val va, .val vb, .val (.ref cv), .val (.int (0 : Int32)), .val va, .val .null, .unset, .unset] []))
          refine Gl.by (fun t_ k_ => XS.iload X.here hx rfl (hb hby at_186) rfl k_) ?_
          show Gl p e below s room_1.cells room_1.slots (fun v h L => v = some (.int 1) ∧ Fr n0 L) (T.setTop (mkF m 188 #[.val (.int p0), .val (.int p1), .val (.int p2), .val (.int p3), .val (.int p4), .val (.int p5), .val (.int d1), .val (.int d2), .val (.int se), .val (.int kq), .val va, .val vb, .val (.ref cv), .val (.int (0 : Int32)), .val va, .val .null, .unset, .unset] [(.int kq)]))
          refine Gl.by (fun t_ k_ => XS.iload X.here hx rfl (hb hby at_188) rfl k_) ?_
          show Gl p e below s room_1.cells room_1.slots (fun v h L => v = some (.int 1) ∧ Fr n0 L) (T.setTop (mkF m 190 #[.val (.int p0), .val (.int p1), .val (.int p2), .val (.int p3), .val (.int p4), .val (.int p5), .val (.int d1), .val (.int d2), .val (.int se), .val (.int kq), .val va, .val vb, .val (.ref cv), .val (.int (0 : Int32)), .val va, .val .null, .unset, .unset] [(.int d1), (.int kq)]))
          refine Gl.by (fun t_ k_ => XS.icmpNo X.here hx rfl (hb hby at_190) rfl (feq k1).1 k_) ?_
          show Gl p e below s room_1.cells room_1.slots (fun v h L => v = some (.int 1) ∧ Fr n0 L) (T.setTop (mkF m 193 #[.val (.int p0), .val (.int p1), .val (.int p2), .val (.int p3), .val (.int p4), .val (.int p5), .val (.int d1), .val (.int d2), .val (.int se), .val (.int kq), .val va, .val vb, .val (.ref cv), .val (.int (0 : Int32)), .val va, .val .null, .unset, .unset] []))
          refine Gl.by (fun t_ k_ => XS.iload X.here hx rfl (hb hby at_193) rfl k_) ?_
          show Gl p e below s room_1.cells room_1.slots (fun v h L => v = some (.int 1) ∧ Fr n0 L) (T.setTop (mkF m 195 #[.val (.int p0), .val (.int p1), .val (.int p2), .val (.int p3), .val (.int p4), .val (.int p5), .val (.int d1), .val (.int d2), .val (.int se), .val (.int kq), .val va, .val vb, .val (.ref cv), .val (.int (0 : Int32)), .val va, .val .null, .unset, .unset] [(.int kq)]))
          refine Gl.by (fun t_ k_ => XS.iload X.here hx rfl (hb hby at_195) rfl k_) ?_
          show Gl p e below s room_1.cells room_1.slots (fun v h L => v = some (.int 1) ∧ Fr n0 L) (T.setTop (mkF m 197 #[.val (.int p0), .val (.int p1), .val (.int p2), .val (.int p3), .val (.int p4), .val (.int p5), .val (.int d1), .val (.int d2), .val (.int se), .val (.int kq), .val va, .val vb, .val (.ref cv), .val (.int (0 : Int32)), .val va, .val .null, .unset, .unset] [(.int d2), (.int kq)]))
          refine Gl.by (fun t_ k_ => XS.icmpYes X.here hx rfl (pc0 := 197) (pc' := 204) rfl (hb hby at_197) rfl (feq k2).2 (by decide) (by decide) k_) ?_
          show Gl p e below s room_1.cells room_1.slots (fun v h L => v = some (.int 1) ∧ Fr n0 L) (T.setTop (mkF m 204 #[.val (.int p0), .val (.int p1), .val (.int p2), .val (.int p3), .val (.int p4), .val (.int p5), .val (.int d1), .val (.int d2), .val (.int se), .val (.int kq), .val va, .val vb, .val (.ref cv), .val (.int (0 : Int32)), .val va, .val .null, .unset, .unset] []))
          refine Gl.by (fun t_ k_ => XS.iconst X.here hx rfl (hb hby at_204) k_) ?_
          show Gl p e below s room_1.cells room_1.slots (fun v h L => v = some (.int 1) ∧ Fr n0 L) (T.setTop (mkF m 205 #[.val (.int p0), .val (.int p1), .val (.int p2), .val (.int p3), .val (.int p4), .val (.int p5), .val (.int d1), .val (.int d2), .val (.int se), .val (.int kq), .val va, .val vb, .val (.ref cv), .val (.int (0 : Int32)), .val va, .val .null, .unset, .unset] [(.int (0 : Int32))]))
          refine Gl.by (fun t_ k_ => XS.istore X.here hx rfl (hb hby at_205) rfl (l' := #[.val (.int p0), .val (.int p1), .val (.int p2), .val (.int p3), .val (.int p4), .val (.int p5), .val (.int d1), .val (.int d2), .val (.int se), .val (.int kq), .val va, .val vb, .val (.ref cv), .val (.int (0 : Int32)), .val va, .val .null, .val (.int (0 : Int32)), .unset]) rfl k_) ?_
          show Gl p e below s room_1.cells room_1.slots (fun v h L => v = some (.int 1) ∧ Fr n0 L) (T.setTop (mkF m 207 #[.val (.int p0), .val (.int p1), .val (.int p2), .val (.int p3), .val (.int p4), .val (.int p5), .val (.int d1), .val (.int d2), .val (.int se), .val (.int kq), .val va, .val vb, .val (.ref cv), .val (.int (0 : Int32)), .val va, .val .null, .val (.int (0 : Int32)), .unset] []))
          refine Gl.by (fun t_ k_ => XS.iload X.here hx rfl (hb hby at_207) rfl k_) ?_
          show Gl p e below s room_1.cells room_1.slots (fun v h L => v = some (.int 1) ∧ Fr n0 L) (T.setTop (mkF m 209 #[.val (.int p0), .val (.int p1), .val (.int p2), .val (.int p3), .val (.int p4), .val (.int p5), .val (.int d1), .val (.int d2), .val (.int se), .val (.int kq), .val va, .val vb, .val (.ref cv), .val (.int (0 : Int32)), .val va, .val .null, .val (.int (0 : Int32)), .unset] [(.int (0 : Int32))]))
          refine Gl.by (fun t_ k_ => XS.ifYes X.here hx rfl (pc0 := 209) (pc' := 216) rfl (hb hby at_209) rfl ((if0 _ _).trans (teq (by decide : (0 : Int32) = (0 : Int32))).1) (by decide) (by decide) k_) ?_
          show Gl p e below s room_1.cells room_1.slots (fun v h L => v = some (.int 1) ∧ Fr n0 L) (T.setTop (mkF m 216 #[.val (.int p0), .val (.int p1), .val (.int p2), .val (.int p3), .val (.int p4), .val (.int p5), .val (.int d1), .val (.int d2), .val (.int se), .val (.int kq), .val va, .val vb, .val (.ref cv), .val (.int (0 : Int32)), .val va, .val .null, .val (.int (0 : Int32)), .unset] []))
          refine Gl.by (fun t_ k_ => XS.iconst X.here hx rfl (hb hby at_216) k_) ?_
          show Gl p e below s room_1.cells room_1.slots (fun v h L => v = some (.int 1) ∧ Fr n0 L) (T.setTop (mkF m 217 #[.val (.int p0), .val (.int p1), .val (.int p2), .val (.int p3), .val (.int p4), .val (.int p5), .val (.int d1), .val (.int d2), .val (.int se), .val (.int kq), .val va, .val vb, .val (.ref cv), .val (.int (0 : Int32)), .val va, .val .null, .val (.int (0 : Int32)), .unset] [(.int (2 : Int32))]))
          refine Gl.by (fun t_ k_ => XS.istore X.here hx rfl (hb hby at_217) rfl (l' := #[.val (.int p0), .val (.int p1), .val (.int p2), .val (.int p3), .val (.int p4), .val (.int p5), .val (.int d1), .val (.int d2), .val (.int se), .val (.int kq), .val va, .val vb, .val (.ref cv), .val (.int (0 : Int32)), .val va, .val .null, .val (.int (0 : Int32)), .val (.int (2 : Int32))]) rfl k_) ?_
          show Gl p e below s room_1.cells room_1.slots (fun v h L => v = some (.int 1) ∧ Fr n0 L) (T.setTop (mkF m 219 #[.val (.int p0), .val (.int p1), .val (.int p2), .val (.int p3), .val (.int p4), .val (.int p5), .val (.int d1), .val (.int d2), .val (.int se), .val (.int kq), .val va, .val vb, .val (.ref cv), .val (.int (0 : Int32)), .val va, .val .null, .val (.int (0 : Int32)), .val (.int (2 : Int32))] []))
          exact j219 h8 d1 d2 se kq _ _ cv t _ va vb va .null (fun q => if q = d2 then some vb else if q = d1 then some va else none) T _ (wider X (by decide) (by decide)) N eT hva hvb hva rfl (O2.keep K8 (allS (by omega) (allS (by omega) all0))) (by omega) (((A5.keep K6).keep K7).keep K8) ((Fv6.keep K7 (ninS (ne_exa (A5.keep K6) F6.1 (by decide)) nin0)).keep K8 (ninS (ne_exa ((A5.keep K6).keep K7) (F6.1.keep K7) (by decide)) (ninS (ne_exa ((A5.keep K6).keep K7) F7.choose_spec.2.1 (by decide)) nin0))) F8.mp (by decide) (by show Option.getD (if d1 = d2 then some vb else if d1 = d1 then some va else none) Value.null = _; rw [if_neg (fun z => c3 z.symm), if_pos rfl]; rfl) (by show Option.getD (if d2 = d2 then some vb else if d2 = d1 then some va else none) Value.null = _; rw [if_pos rfl]; rfl) (by show Option.getD (if kq = d2 then some vb else if kq = d1 then some va else none) Value.null = _; rw [if_neg k2, if_neg k1]; rfl) (by show (if (if kq = d2 then some vb else if kq = d1 then some va else none).isSome = true then (1 : Int32) else 0) = _; rw [if_neg k2, if_neg k1]; rfl)
  have j82 : ∀ (g0 : Heap) (d1 d2 se kq : Int32) (va : Value) (T : State) (locs : List Loc) (_ : Stand p l e room_1 s m #[(.int p0), (.int p1), (.int p2), (.int p3), (.int p4), (.int p5)] below meth c T locs 1 1) (_ : Fr n0 locs) (_ : T.heap = g0) (_ : va.isRef = true) (_ : Old Z n0 g0) (_ : n0 ≤ g0.size) (_ : ¬ d1 < 0) (_ : ¬ d2 < 0), Gl p e below s room_1.cells room_1.slots (fun v h L => v = some (.int 1) ∧ Fr n0 L) (T.setTop (mkF m 82 #[.val (.int p0), .val (.int p1), .val (.int p2), .val (.int p3), .val (.int p4), .val (.int p5), .val (.int d1), .val (.int d2), .val (.int se), .val (.int kq), .val va, .unset, .unset, .unset, .unset, .unset, .unset, .unset] [])) := by
    intro g0 d1 d2 se kq va T locs X N eT hva O Z1 n1 n2
    refine Gl.by (fun t_ k_ => XS.iload X.here hx rfl (hb hby at_82) rfl k_) ?_
    show Gl p e below s room_1.cells room_1.slots (fun v h L => v = some (.int 1) ∧ Fr n0 L) (T.setTop (mkF m 84 #[.val (.int p0), .val (.int p1), .val (.int p2), .val (.int p3), .val (.int p4), .val (.int p5), .val (.int d1), .val (.int d2), .val (.int se), .val (.int kq), .val va, .unset, .unset, .unset, .unset, .unset, .unset, .unset] [(.int p5)]))
    refine Gl.by (fun t_ k_ => XS.bipush X.here hx rfl (hb hby at_84) k_) ?_
    show Gl p e below s room_1.cells room_1.slots (fun v h L => v = some (.int 1) ∧ Fr n0 L) (T.setTop (mkF m 86 #[.val (.int p0), .val (.int p1), .val (.int p2), .val (.int p3), .val (.int p4), .val (.int p5), .val (.int d1), .val (.int d2), .val (.int se), .val (.int kq), .val va, .unset, .unset, .unset, .unset, .unset, .unset, .unset] [(.int (8 : Int32)), (.int p5)]))
    refine Gl.by (fun t_ k_ => XS.iand X.here hx rfl (hb hby at_86) rfl k_) ?_
    show Gl p e below s room_1.cells room_1.slots (fun v h L => v = some (.int 1) ∧ Fr n0 L) (T.setTop (mkF m 87 #[.val (.int p0), .val (.int p1), .val (.int p2), .val (.int p3), .val (.int p4), .val (.int p5), .val (.int d1), .val (.int d2), .val (.int se), .val (.int kq), .val va, .unset, .unset, .unset, .unset, .unset, .unset, .unset] [(.int (p5 &&& (8 : Int32)))]))
    by_cases c0 : (p5 &&& (8 : Int32)) = (0 : Int32)
    · refine Gl.by (fun t_ k_ => XS.ifYes X.here hx rfl (pc0 := 87) (pc' := 94) rfl (hb hby at_87) rfl ((if0 _ _).trans (teq c0).1) (by decide) (by decide) k_) ?_
      show Gl p e below s room_1.cells room_1.slots (fun v h L => v = some (.int 1) ∧ Fr n0 L) (T.setTop (mkF m 94 #[.val (.int p0), .val (.int p1), .val (.int p2), .val (.int p3), .val (.int p4), .val (.int p5), .val (.int d1), .val (.int d2), .val (.int se), .val (.int kq), .val va, .unset, .unset, .unset, .unset, .unset, .unset, .unset] []))
      refine Gl.by (fun t_ k_ => XS.iloadN X.here hx rfl (hb hby at_94) rfl k_) ?_
      show Gl p e below s room_1.cells room_1.slots (fun v h L => v = some (.int 1) ∧ Fr n0 L) (T.setTop (mkF m 95 #[.val (.int p0), .val (.int p1), .val (.int p2), .val (.int p3), .val (.int p4), .val (.int p5), .val (.int d1), .val (.int d2), .val (.int se), .val (.int kq), .val va, .unset, .unset, .unset, .unset, .unset, .unset, .unset] [(.int p3)]))
      refine Gl.stat X hx hZ hown (hw _ (List.mem_of_getElem? (i := 1) rfl)) (hw _ (List.mem_of_getElem? (i := 2) rfl)) (hw _ (List.mem_of_getElem? (i := 3) rfl)) (hw _ (List.mem_of_getElem? (i := 4) rfl)) (by decide) (W := 0) (backC (own_vof l Z a0 hw p3 g0 n0 (by omega) C O) hZ (hw _ (List.mem_of_getElem? (i := 4) rfl)) (hw _ (List.mem_of_getElem? (i := 3) rfl)) (by decide) (by decide)) eT (hb hby at_95) (by rw [hml]; rfl) [(.int p3)] [] (lenOf pd_12 rfl) rfl rfl (Nat.le_of_eq rfl) (by decide) (by decide) ?_
      intro v T L X hq
      obtain ⟨NQ, K9, kv, rfl, F9⟩ := hq
      have N := Fr.app N NQ
      obtain ⟨h9, eT⟩ : ∃ z, T.heap = z := ⟨_, rfl⟩
      rw [eT] at K9 F9
      have sz9 := K9.1
      show Gl p e below s room_1.cells room_1.slots (fun v h L => v = some (.int 1) ∧ Fr n0 L) (T.setTop (mkF m 98 #[.val (.int p0), .val (.int p1), .val (.int p2), .val (.int p3), .val (.int p4), .val (.int p5), .val (.int d1), .val (.int d2), .val (.int se), .val (.int kq), .val va, .unset, .unset, .unset, .unset, .unset, .unset, .unset] [(.ref kv)]))
      refine Gl.by (fun t_ k_ => XS.astore X.here hx rfl (hb hby at_98) rfl rfl (l' := #[.val (.int p0), .val (.int p1), .val (.int p2), .val (.int p3), .val (.int p4), .val (.int p5), .val (.int d1), .val (.int d2), .val (.int se), .val (.int kq), .val va, .val (.ref kv), .unset, .unset, .unset, .unset, .unset, .unset]) rfl k_) ?_
      show Gl p e below s room_1.cells room_1.slots (fun v h L => v = some (.int 1) ∧ Fr n0 L) (T.setTop (mkF m 100 #[.val (.int p0), .val (.int p1), .val (.int p2), .val (.int p3), .val (.int p4), .val (.int p5), .val (.int d1), .val (.int d2), .val (.int se), .val (.int kq), .val va, .val (.ref kv), .unset, .unset, .unset, .unset, .unset, .unset] []))
      exact j100 h9 d1 d2 se kq va (.ref kv) T _ (wider X (by decide) (by decide)) N eT hva rfl (O.keep K9 all0) (by omega) n1 n2
    · refine Gl.by (fun t_ k_ => XS.ifNo X.here hx rfl (hb hby at_87) rfl ((if0 _ _).trans (feq c0).1) k_) ?_
      show Gl p e below s room_1.cells room_1.slots (fun v h L => v = some (.int 1) ∧ Fr n0 L) (T.setTop (mkF m 90 #[.val (.int p0), .val (.int p1), .val (.int p2), .val (.int p3), .val (.int p4), .val (.int p5), .val (.int d1), .val (.int d2), .val (.int se), .val (.int kq), .val va, .unset, .unset, .unset, .unset, .unset, .unset, .unset] []))
      refine Gl.by (fun t_ k_ => XS.aconstNull X.here hx rfl (hb hby at_90) k_) ?_
      show Gl p e below s room_1.cells room_1.slots (fun v h L => v = some (.int 1) ∧ Fr n0 L) (T.setTop (mkF m 91 #[.val (.int p0), .val (.int p1), .val (.int p2), .val (.int p3), .val (.int p4), .val (.int p5), .val (.int d1), .val (.int d2), .val (.int se), .val (.int kq), .val va, .unset, .unset, .unset, .unset, .unset, .unset, .unset] [.null]))
      refine Gl.by (fun t_ k_ => XS.goto X.here hx rfl (pc0 := 91) (pc' := 98) rfl (hb hby at_91) (by decide) (by decide) k_) ?_
      show Gl p e below s room_1.cells room_1.slots (fun v h L => v = some (.int 1) ∧ Fr n0 L) (T.setTop (mkF m 98 #[.val (.int p0), .val (.int p1), .val (.int p2), .val (.int p3), .val (.int p4), .val (.int p5), .val (.int d1), .val (.int d2), .val (.int se), .val (.int kq), .val va, .unset, .unset, .unset, .unset, .unset, .unset, .unset] [.null]))
      refine Gl.by (fun t_ k_ => XS.astore X.here hx rfl (hb hby at_98) rfl rfl (l' := #[.val (.int p0), .val (.int p1), .val (.int p2), .val (.int p3), .val (.int p4), .val (.int p5), .val (.int d1), .val (.int d2), .val (.int se), .val (.int kq), .val va, .val .null, .unset, .unset, .unset, .unset, .unset, .unset]) rfl k_) ?_
      show Gl p e below s room_1.cells room_1.slots (fun v h L => v = some (.int 1) ∧ Fr n0 L) (T.setTop (mkF m 100 #[.val (.int p0), .val (.int p1), .val (.int p2), .val (.int p3), .val (.int p4), .val (.int p5), .val (.int d1), .val (.int d2), .val (.int se), .val (.int kq), .val va, .val .null, .unset, .unset, .unset, .unset, .unset, .unset] []))
      exact j100 g0 d1 d2 se kq va .null T _ (wider X (by decide) (by decide)) N eT hva rfl O (by omega) n1 n2
  have j64 : ∀ (g0 : Heap) (d1 d2 se kq : Int32)  (T : State) (locs : List Loc) (_ : Stand p l e room_1 s m #[(.int p0), (.int p1), (.int p2), (.int p3), (.int p4), (.int p5)] below meth c T locs 0 0) (_ : Fr n0 locs) (_ : T.heap = g0)  (_ : Old Z n0 g0) (_ : n0 ≤ g0.size) (_ : ¬ d1 < 0) (_ : ¬ d2 < 0), Gl p e below s room_1.cells room_1.slots (fun v h L => v = some (.int 1) ∧ Fr n0 L) (T.setTop (mkF m 64 #[.val (.int p0), .val (.int p1), .val (.int p2), .val (.int p3), .val (.int p4), .val (.int p5), .val (.int d1), .val (.int d2), .val (.int se), .val (.int kq), .unset, .unset, .unset, .unset, .unset, .unset, .unset, .unset] [])) := by
    intro g0 d1 d2 se kq  T locs X N eT  O Z1 n1 n2
    refine Gl.by (fun t_ k_ => XS.iload X.here hx rfl (hb hby at_64) rfl k_) ?_
    show Gl p e below s room_1.cells room_1.slots (fun v h L => v = some (.int 1) ∧ Fr n0 L) (T.setTop (mkF m 66 #[.val (.int p0), .val (.int p1), .val (.int p2), .val (.int p3), .val (.int p4), .val (.int p5), .val (.int d1), .val (.int d2), .val (.int se), .val (.int kq), .unset, .unset, .unset, .unset, .unset, .unset, .unset, .unset] [(.int p5)]))
    refine Gl.by (fun t_ k_ => XS.bipush X.here hx rfl (hb hby at_66) k_) ?_
    show Gl p e below s room_1.cells room_1.slots (fun v h L => v = some (.int 1) ∧ Fr n0 L) (T.setTop (mkF m 68 #[.val (.int p0), .val (.int p1), .val (.int p2), .val (.int p3), .val (.int p4), .val (.int p5), .val (.int d1), .val (.int d2), .val (.int se), .val (.int kq), .unset, .unset, .unset, .unset, .unset, .unset, .unset, .unset] [(.int (16 : Int32)), (.int p5)]))
    refine Gl.by (fun t_ k_ => XS.iand X.here hx rfl (hb hby at_68) rfl k_) ?_
    show Gl p e below s room_1.cells room_1.slots (fun v h L => v = some (.int 1) ∧ Fr n0 L) (T.setTop (mkF m 69 #[.val (.int p0), .val (.int p1), .val (.int p2), .val (.int p3), .val (.int p4), .val (.int p5), .val (.int d1), .val (.int d2), .val (.int se), .val (.int kq), .unset, .unset, .unset, .unset, .unset, .unset, .unset, .unset] [(.int (p5 &&& (16 : Int32)))]))
    by_cases c0 : (p5 &&& (16 : Int32)) = (0 : Int32)
    · refine Gl.by (fun t_ k_ => XS.ifYes X.here hx rfl (pc0 := 69) (pc' := 76) rfl (hb hby at_69) rfl ((if0 _ _).trans (teq c0).1) (by decide) (by decide) k_) ?_
      show Gl p e below s room_1.cells room_1.slots (fun v h L => v = some (.int 1) ∧ Fr n0 L) (T.setTop (mkF m 76 #[.val (.int p0), .val (.int p1), .val (.int p2), .val (.int p3), .val (.int p4), .val (.int p5), .val (.int d1), .val (.int d2), .val (.int se), .val (.int kq), .unset, .unset, .unset, .unset, .unset, .unset, .unset, .unset] []))
      refine Gl.by (fun t_ k_ => XS.iloadN X.here hx rfl (hb hby at_76) rfl k_) ?_
      show Gl p e below s room_1.cells room_1.slots (fun v h L => v = some (.int 1) ∧ Fr n0 L) (T.setTop (mkF m 77 #[.val (.int p0), .val (.int p1), .val (.int p2), .val (.int p3), .val (.int p4), .val (.int p5), .val (.int d1), .val (.int d2), .val (.int se), .val (.int kq), .unset, .unset, .unset, .unset, .unset, .unset, .unset, .unset] [(.int p2)]))
      refine Gl.stat X hx hZ hown (hw _ (List.mem_of_getElem? (i := 1) rfl)) (hw _ (List.mem_of_getElem? (i := 2) rfl)) (hw _ (List.mem_of_getElem? (i := 3) rfl)) (hw _ (List.mem_of_getElem? (i := 4) rfl)) (by decide) (W := 0) (backC (own_vof l Z a0 hw p2 g0 n0 (by omega) C O) hZ (hw _ (List.mem_of_getElem? (i := 4) rfl)) (hw _ (List.mem_of_getElem? (i := 3) rfl)) (by decide) (by decide)) eT (hb hby at_77) (by rw [hml]; rfl) [(.int p2)] [] (lenOf pd_12 rfl) rfl rfl (Nat.le_of_eq rfl) (by decide) (by decide) ?_
      intro v T L X hq
      obtain ⟨NQ, K10, kv, rfl, F10⟩ := hq
      have N := Fr.app N NQ
      obtain ⟨h10, eT⟩ : ∃ z, T.heap = z := ⟨_, rfl⟩
      rw [eT] at K10 F10
      have sz10 := K10.1
      show Gl p e below s room_1.cells room_1.slots (fun v h L => v = some (.int 1) ∧ Fr n0 L) (T.setTop (mkF m 80 #[.val (.int p0), .val (.int p1), .val (.int p2), .val (.int p3), .val (.int p4), .val (.int p5), .val (.int d1), .val (.int d2), .val (.int se), .val (.int kq), .unset, .unset, .unset, .unset, .unset, .unset, .unset, .unset] [(.ref kv)]))
      refine Gl.by (fun t_ k_ => XS.astore X.here hx rfl (hb hby at_80) rfl rfl (l' := #[.val (.int p0), .val (.int p1), .val (.int p2), .val (.int p3), .val (.int p4), .val (.int p5), .val (.int d1), .val (.int d2), .val (.int se), .val (.int kq), .val (.ref kv), .unset, .unset, .unset, .unset, .unset, .unset, .unset]) rfl k_) ?_
      show Gl p e below s room_1.cells room_1.slots (fun v h L => v = some (.int 1) ∧ Fr n0 L) (T.setTop (mkF m 82 #[.val (.int p0), .val (.int p1), .val (.int p2), .val (.int p3), .val (.int p4), .val (.int p5), .val (.int d1), .val (.int d2), .val (.int se), .val (.int kq), .val (.ref kv), .unset, .unset, .unset, .unset, .unset, .unset, .unset] []))
      exact j82 h10 d1 d2 se kq (.ref kv) T _ (wider X (by decide) (by decide)) N eT rfl (O.keep K10 all0) (by omega) n1 n2
    · refine Gl.by (fun t_ k_ => XS.ifNo X.here hx rfl (hb hby at_69) rfl ((if0 _ _).trans (feq c0).1) k_) ?_
      show Gl p e below s room_1.cells room_1.slots (fun v h L => v = some (.int 1) ∧ Fr n0 L) (T.setTop (mkF m 72 #[.val (.int p0), .val (.int p1), .val (.int p2), .val (.int p3), .val (.int p4), .val (.int p5), .val (.int d1), .val (.int d2), .val (.int se), .val (.int kq), .unset, .unset, .unset, .unset, .unset, .unset, .unset, .unset] []))
      refine Gl.by (fun t_ k_ => XS.aconstNull X.here hx rfl (hb hby at_72) k_) ?_
      show Gl p e below s room_1.cells room_1.slots (fun v h L => v = some (.int 1) ∧ Fr n0 L) (T.setTop (mkF m 73 #[.val (.int p0), .val (.int p1), .val (.int p2), .val (.int p3), .val (.int p4), .val (.int p5), .val (.int d1), .val (.int d2), .val (.int se), .val (.int kq), .unset, .unset, .unset, .unset, .unset, .unset, .unset, .unset] [.null]))
      refine Gl.by (fun t_ k_ => XS.goto X.here hx rfl (pc0 := 73) (pc' := 80) rfl (hb hby at_73) (by decide) (by decide) k_) ?_
      show Gl p e below s room_1.cells room_1.slots (fun v h L => v = some (.int 1) ∧ Fr n0 L) (T.setTop (mkF m 80 #[.val (.int p0), .val (.int p1), .val (.int p2), .val (.int p3), .val (.int p4), .val (.int p5), .val (.int d1), .val (.int d2), .val (.int se), .val (.int kq), .unset, .unset, .unset, .unset, .unset, .unset, .unset, .unset] [.null]))
      refine Gl.by (fun t_ k_ => XS.astore X.here hx rfl (hb hby at_80) rfl rfl (l' := #[.val (.int p0), .val (.int p1), .val (.int p2), .val (.int p3), .val (.int p4), .val (.int p5), .val (.int d1), .val (.int d2), .val (.int se), .val (.int kq), .val .null, .unset, .unset, .unset, .unset, .unset, .unset, .unset]) rfl k_) ?_
      show Gl p e below s room_1.cells room_1.slots (fun v h L => v = some (.int 1) ∧ Fr n0 L) (T.setTop (mkF m 82 #[.val (.int p0), .val (.int p1), .val (.int p2), .val (.int p3), .val (.int p4), .val (.int p5), .val (.int d1), .val (.int d2), .val (.int se), .val (.int kq), .val .null, .unset, .unset, .unset, .unset, .unset, .unset, .unset] []))
      exact j82 g0 d1 d2 se kq .null T _ (wider X (by decide) (by decide)) N eT rfl O (by omega) n1 n2
  have j24 : ∀ (d1 d2 : Int32) (_ : ¬ d1 < 0) (_ : ¬ d2 < 0), Gl p e below s room_1.cells room_1.slots (fun v h L => v = some (.int 1) ∧ Fr n0 L) (T.setTop (mkF m 24 #[.val (.int p0), .val (.int p1), .val (.int p2), .val (.int p3), .val (.int p4), .val (.int p5), .val (.int d1), .val (.int d2), .unset, .unset, .unset, .unset, .unset, .unset, .unset, .unset, .unset, .unset] [])) := by
    intro d1 d2 n1 n2
    refine Gl.by (fun t_ k_ => XS.iload X.here hx rfl (hb hby at_24) rfl k_) ?_
    show Gl p e below s room_1.cells room_1.slots (fun v h L => v = some (.int 1) ∧ Fr n0 L) (T.setTop (mkF m 26 #[.val (.int p0), .val (.int p1), .val (.int p2), .val (.int p3), .val (.int p4), .val (.int p5), .val (.int d1), .val (.int d2), .unset, .unset, .unset, .unset, .unset, .unset, .unset, .unset, .unset, .unset] [(.int p5)]))
    refine Gl.by (fun t_ k_ => XS.iconst X.here hx rfl (hb hby at_26) k_) ?_
    show Gl p e below s room_1.cells room_1.slots (fun v h L => v = some (.int 1) ∧ Fr n0 L) (T.setTop (mkF m 27 #[.val (.int p0), .val (.int p1), .val (.int p2), .val (.int p3), .val (.int p4), .val (.int p5), .val (.int d1), .val (.int d2), .unset, .unset, .unset, .unset, .unset, .unset, .unset, .unset, .unset, .unset] [(.int (1 : Int32)), (.int p5)]))
    refine Gl.by (fun t_ k_ => XS.iushr X.here hx rfl (hb hby at_27) rfl k_) ?_
    show Gl p e below s room_1.cells room_1.slots (fun v h L => v = some (.int 1) ∧ Fr n0 L) (T.setTop (mkF m 28 #[.val (.int p0), .val (.int p1), .val (.int p2), .val (.int p3), .val (.int p4), .val (.int p5), .val (.int d1), .val (.int d2), .unset, .unset, .unset, .unset, .unset, .unset, .unset, .unset, .unset, .unset] [(.int ((p5.toUInt32 >>> ((1 : Int32) &&& 31).toUInt32).toInt32))]))
    refine Gl.by (fun t_ k_ => XS.iconst X.here hx rfl (hb hby at_28) k_) ?_
    show Gl p e below s room_1.cells room_1.slots (fun v h L => v = some (.int 1) ∧ Fr n0 L) (T.setTop (mkF m 29 #[.val (.int p0), .val (.int p1), .val (.int p2), .val (.int p3), .val (.int p4), .val (.int p5), .val (.int d1), .val (.int d2), .unset, .unset, .unset, .unset, .unset, .unset, .unset, .unset, .unset, .unset] [(.int (3 : Int32)), (.int ((p5.toUInt32 >>> ((1 : Int32) &&& 31).toUInt32).toInt32))]))
    refine Gl.by (fun t_ k_ => XS.iand X.here hx rfl (hb hby at_29) rfl k_) ?_
    show Gl p e below s room_1.cells room_1.slots (fun v h L => v = some (.int 1) ∧ Fr n0 L) (T.setTop (mkF m 30 #[.val (.int p0), .val (.int p1), .val (.int p2), .val (.int p3), .val (.int p4), .val (.int p5), .val (.int d1), .val (.int d2), .unset, .unset, .unset, .unset, .unset, .unset, .unset, .unset, .unset, .unset] [(.int (((p5.toUInt32 >>> ((1 : Int32) &&& 31).toUInt32).toInt32) &&& (3 : Int32)))]))
    refine Gl.by (fun t_ k_ => XS.istore X.here hx rfl (hb hby at_30) rfl (l' := #[.val (.int p0), .val (.int p1), .val (.int p2), .val (.int p3), .val (.int p4), .val (.int p5), .val (.int d1), .val (.int d2), .val (.int (((p5.toUInt32 >>> ((1 : Int32) &&& 31).toUInt32).toInt32) &&& (3 : Int32))), .unset, .unset, .unset, .unset, .unset, .unset, .unset, .unset, .unset]) rfl k_) ?_
    show Gl p e below s room_1.cells room_1.slots (fun v h L => v = some (.int 1) ∧ Fr n0 L) (T.setTop (mkF m 32 #[.val (.int p0), .val (.int p1), .val (.int p2), .val (.int p3), .val (.int p4), .val (.int p5), .val (.int d1), .val (.int d2), .val (.int (((p5.toUInt32 >>> ((1 : Int32) &&& 31).toUInt32).toInt32) &&& (3 : Int32))), .unset, .unset, .unset, .unset, .unset, .unset, .unset, .unset, .unset] []))
    generalize (((p5.toUInt32 >>> ((1 : Int32) &&& 31).toUInt32).toInt32) &&& (3 : Int32)) = se
    show Gl p e below s room_1.cells room_1.slots (fun v h L => v = some (.int 1) ∧ Fr n0 L) (T.setTop (mkF m 32 #[.val (.int p0), .val (.int p1), .val (.int p2), .val (.int p3), .val (.int p4), .val (.int p5), .val (.int d1), .val (.int d2), .val (.int se), .unset, .unset, .unset, .unset, .unset, .unset, .unset, .unset, .unset] []))
    refine Gl.by (fun t_ k_ => XS.iload X.here hx rfl (hb hby at_32) rfl k_) ?_
    show Gl p e below s room_1.cells room_1.slots (fun v h L => v = some (.int 1) ∧ Fr n0 L) (T.setTop (mkF m 34 #[.val (.int p0), .val (.int p1), .val (.int p2), .val (.int p3), .val (.int p4), .val (.int p5), .val (.int d1), .val (.int d2), .val (.int se), .unset, .unset, .unset, .unset, .unset, .unset, .unset, .unset, .unset] [(.int se)]))
    by_cases c0 : se = (0 : Int32)
    · refine Gl.by (fun t_ k_ => XS.ifNo X.here hx rfl (hb hby at_34) rfl ((if0 _ _).trans (teq c0).2) k_) ?_
      show Gl p e below s room_1.cells room_1.slots (fun v h L => v = some (.int 1) ∧ Fr n0 L) (T.setTop (mkF m 37 #[.val (.int p0), .val (.int p1), .val (.int p2), .val (.int p3), .val (.int p4), .val (.int p5), .val (.int d1), .val (.int d2), .val (.int se), .unset, .unset, .unset, .unset, .unset, .unset, .unset, .unset, .unset] []))
      refine Gl.by (fun t_ k_ => XS.iload X.here hx rfl (hb hby at_37) rfl k_) ?_
      show Gl p e below s room_1.cells room_1.slots (fun v h L => v = some (.int 1) ∧ Fr n0 L) (T.setTop (mkF m 39 #[.val (.int p0), .val (.int p1), .val (.int p2), .val (.int p3), .val (.int p4), .val (.int p5), .val (.int d1), .val (.int d2), .val (.int se), .unset, .unset, .unset, .unset, .unset, .unset, .unset, .unset, .unset] [(.int d1)]))
      refine Gl.by (fun t_ k_ => XS.istore X.here hx rfl (hb hby at_39) rfl (l' := #[.val (.int p0), .val (.int p1), .val (.int p2), .val (.int p3), .val (.int p4), .val (.int p5), .val (.int d1), .val (.int d2), .val (.int se), .val (.int d1), .unset, .unset, .unset, .unset, .unset, .unset, .unset, .unset]) rfl k_) ?_
      show Gl p e below s room_1.cells room_1.slots (fun v h L => v = some (.int 1) ∧ Fr n0 L) (T.setTop (mkF m 41 #[.val (.int p0), .val (.int p1), .val (.int p2), .val (.int p3), .val (.int p4), .val (.int p5), .val (.int d1), .val (.int d2), .val (.int se), .val (.int d1), .unset, .unset, .unset, .unset, .unset, .unset, .unset, .unset] []))
      refine Gl.by (fun t_ k_ => XS.goto X.here hx rfl (pc0 := 41) (pc' := 64) rfl (hb hby at_41) (by decide) (by decide) k_) ?_
      show Gl p e below s room_1.cells room_1.slots (fun v h L => v = some (.int 1) ∧ Fr n0 L) (T.setTop (mkF m 64 #[.val (.int p0), .val (.int p1), .val (.int p2), .val (.int p3), .val (.int p4), .val (.int p5), .val (.int d1), .val (.int d2), .val (.int se), .val (.int d1), .unset, .unset, .unset, .unset, .unset, .unset, .unset, .unset] []))
      exact j64 h0 d1 d2 se _ T _ X N eT O Z0 n1 n2
    · refine Gl.by (fun t_ k_ => XS.ifYes X.here hx rfl (pc0 := 34) (pc' := 44) rfl (hb hby at_34) rfl ((if0 _ _).trans (feq c0).2) (by decide) (by decide) k_) ?_
      show Gl p e below s room_1.cells room_1.slots (fun v h L => v = some (.int 1) ∧ Fr n0 L) (T.setTop (mkF m 44 #[.val (.int p0), .val (.int p1), .val (.int p2), .val (.int p3), .val (.int p4), .val (.int p5), .val (.int d1), .val (.int d2), .val (.int se), .unset, .unset, .unset, .unset, .unset, .unset, .unset, .unset, .unset] []))
      refine Gl.by (fun t_ k_ => XS.iload X.here hx rfl (hb hby at_44) rfl k_) ?_
      show Gl p e below s room_1.cells room_1.slots (fun v h L => v = some (.int 1) ∧ Fr n0 L) (T.setTop (mkF m 46 #[.val (.int p0), .val (.int p1), .val (.int p2), .val (.int p3), .val (.int p4), .val (.int p5), .val (.int d1), .val (.int d2), .val (.int se), .unset, .unset, .unset, .unset, .unset, .unset, .unset, .unset, .unset] [(.int se)]))
      refine Gl.by (fun t_ k_ => XS.iconst X.here hx rfl (hb hby at_46) k_) ?_
      show Gl p e below s room_1.cells room_1.slots (fun v h L => v = some (.int 1) ∧ Fr n0 L) (T.setTop (mkF m 47 #[.val (.int p0), .val (.int p1), .val (.int p2), .val (.int p3), .val (.int p4), .val (.int p5), .val (.int d1), .val (.int d2), .val (.int se), .unset, .unset, .unset, .unset, .unset, .unset, .unset, .unset, .unset] [(.int (1 : Int32)), (.int se)]))
      by_cases c1 : se = (1 : Int32)
      · refine Gl.by (fun t_ k_ => XS.icmpNo X.here hx rfl (hb hby at_47) rfl (teq c1).2 k_) ?_
        show Gl p e below s room_1.cells room_1.slots (fun v h L => v = some (.int 1) ∧ Fr n0 L) (T.setTop (mkF m 50 #[.val (.int p0), .val (.int p1), .val (.int p2), .val (.int p3), .val (.int p4), .val (.int p5), .val (.int d1), .val (.int d2), .val (.int se), .unset, .unset, .unset, .unset, .unset, .unset, .unset, .unset, .unset] []))
        refine Gl.by (fun t_ k_ => XS.iload X.here hx rfl (hb hby at_50) rfl k_) ?_
        show Gl p e below s room_1.cells room_1.slots (fun v h L => v = some (.int 1) ∧ Fr n0 L) (T.setTop (mkF m 52 #[.val (.int p0), .val (.int p1), .val (.int p2), .val (.int p3), .val (.int p4), .val (.int p5), .val (.int d1), .val (.int d2), .val (.int se), .unset, .unset, .unset, .unset, .unset, .unset, .unset, .unset, .unset] [(.int d2)]))
        refine Gl.by (fun t_ k_ => XS.istore X.here hx rfl (hb hby at_52) rfl (l' := #[.val (.int p0), .val (.int p1), .val (.int p2), .val (.int p3), .val (.int p4), .val (.int p5), .val (.int d1), .val (.int d2), .val (.int se), .val (.int d2), .unset, .unset, .unset, .unset, .unset, .unset, .unset, .unset]) rfl k_) ?_
        show Gl p e below s room_1.cells room_1.slots (fun v h L => v = some (.int 1) ∧ Fr n0 L) (T.setTop (mkF m 54 #[.val (.int p0), .val (.int p1), .val (.int p2), .val (.int p3), .val (.int p4), .val (.int p5), .val (.int d1), .val (.int d2), .val (.int se), .val (.int d2), .unset, .unset, .unset, .unset, .unset, .unset, .unset, .unset] []))
        refine Gl.by (fun t_ k_ => XS.goto X.here hx rfl (pc0 := 54) (pc' := 64) rfl (hb hby at_54) (by decide) (by decide) k_) ?_
        show Gl p e below s room_1.cells room_1.slots (fun v h L => v = some (.int 1) ∧ Fr n0 L) (T.setTop (mkF m 64 #[.val (.int p0), .val (.int p1), .val (.int p2), .val (.int p3), .val (.int p4), .val (.int p5), .val (.int d1), .val (.int d2), .val (.int se), .val (.int d2), .unset, .unset, .unset, .unset, .unset, .unset, .unset, .unset] []))
        exact j64 h0 d1 d2 se _ T _ X N eT O Z0 n1 n2
      · refine Gl.by (fun t_ k_ => XS.icmpYes X.here hx rfl (pc0 := 47) (pc' := 57) rfl (hb hby at_47) rfl (feq c1).2 (by decide) (by decide) k_) ?_
        show Gl p e below s room_1.cells room_1.slots (fun v h L => v = some (.int 1) ∧ Fr n0 L) (T.setTop (mkF m 57 #[.val (.int p0), .val (.int p1), .val (.int p2), .val (.int p3), .val (.int p4), .val (.int p5), .val (.int d1), .val (.int d2), .val (.int se), .unset, .unset, .unset, .unset, .unset, .unset, .unset, .unset, .unset] []))
        refine Gl.by (fun t_ k_ => XS.iload X.here hx rfl (hb hby at_57) rfl k_) ?_
        show Gl p e below s room_1.cells room_1.slots (fun v h L => v = some (.int 1) ∧ Fr n0 L) (T.setTop (mkF m 59 #[.val (.int p0), .val (.int p1), .val (.int p2), .val (.int p3), .val (.int p4), .val (.int p5), .val (.int d1), .val (.int d2), .val (.int se), .unset, .unset, .unset, .unset, .unset, .unset, .unset, .unset, .unset] [(.int p4)]))
        refine Gl.by (fun t_ k_ => X.ldcInt hx hown (mvT hZ (hw _ (List.mem_of_getElem? (i := 0) rfl))) (g := (mkF m 59 #[.val (.int p0), .val (.int p1), .val (.int p2), .val (.int p3), .val (.int p4), .val (.int p5), .val (.int d1), .val (.int d2), .val (.int se), .unset, .unset, .unset, .unset, .unset, .unset, .unset, .unset, .unset] [(.int p4)])) rfl (hb hby at_59) _ k_) ?_
        show Gl p e below s room_1.cells room_1.slots (fun v h L => v = some (.int 1) ∧ Fr n0 L) (T.setTop (mkF m 61 #[.val (.int p0), .val (.int p1), .val (.int p2), .val (.int p3), .val (.int p4), .val (.int p5), .val (.int d1), .val (.int d2), .val (.int se), .unset, .unset, .unset, .unset, .unset, .unset, .unset, .unset, .unset] [(.int (2147483647 : Int32)), (.int p4)]))
        refine Gl.by (fun t_ k_ => XS.iand X.here hx rfl (hb hby at_61) rfl k_) ?_
        show Gl p e below s room_1.cells room_1.slots (fun v h L => v = some (.int 1) ∧ Fr n0 L) (T.setTop (mkF m 62 #[.val (.int p0), .val (.int p1), .val (.int p2), .val (.int p3), .val (.int p4), .val (.int p5), .val (.int d1), .val (.int d2), .val (.int se), .unset, .unset, .unset, .unset, .unset, .unset, .unset, .unset, .unset] [(.int (p4 &&& (2147483647 : Int32)))]))
        refine Gl.by (fun t_ k_ => XS.istore X.here hx rfl (hb hby at_62) rfl (l' := #[.val (.int p0), .val (.int p1), .val (.int p2), .val (.int p3), .val (.int p4), .val (.int p5), .val (.int d1), .val (.int d2), .val (.int se), .val (.int (p4 &&& (2147483647 : Int32))), .unset, .unset, .unset, .unset, .unset, .unset, .unset, .unset]) rfl k_) ?_
        show Gl p e below s room_1.cells room_1.slots (fun v h L => v = some (.int 1) ∧ Fr n0 L) (T.setTop (mkF m 64 #[.val (.int p0), .val (.int p1), .val (.int p2), .val (.int p3), .val (.int p4), .val (.int p5), .val (.int d1), .val (.int d2), .val (.int se), .val (.int (p4 &&& (2147483647 : Int32))), .unset, .unset, .unset, .unset, .unset, .unset, .unset, .unset] []))
        exact j64 h0 d1 d2 se _ T _ X N eT O Z0 n1 n2
  show Gl p e below s room_1.cells room_1.slots (fun v h L => v = some (.int 1) ∧ Fr n0 L) (T.setTop (mkF m 0 #[.val (.int p0), .val (.int p1), .val (.int p2), .val (.int p3), .val (.int p4), .val (.int p5), .unset, .unset, .unset, .unset, .unset, .unset, .unset, .unset, .unset, .unset, .unset, .unset] []))
  refine Gl.by (fun t_ k_ => XS.iloadN X.here hx rfl (hb hby at_0) rfl k_) ?_
  show Gl p e below s room_1.cells room_1.slots (fun v h L => v = some (.int 1) ∧ Fr n0 L) (T.setTop (mkF m 1 #[.val (.int p0), .val (.int p1), .val (.int p2), .val (.int p3), .val (.int p4), .val (.int p5), .unset, .unset, .unset, .unset, .unset, .unset, .unset, .unset, .unset, .unset, .unset, .unset] [(.int p0)]))
  refine Gl.by (fun t_ k_ => X.ldcInt hx hown (mvT hZ (hw _ (List.mem_of_getElem? (i := 0) rfl))) (g := (mkF m 1 #[.val (.int p0), .val (.int p1), .val (.int p2), .val (.int p3), .val (.int p4), .val (.int p5), .unset, .unset, .unset, .unset, .unset, .unset, .unset, .unset, .unset, .unset, .unset, .unset] [(.int p0)])) rfl (hb hby at_1) _ k_) ?_
  show Gl p e below s room_1.cells room_1.slots (fun v h L => v = some (.int 1) ∧ Fr n0 L) (T.setTop (mkF m 3 #[.val (.int p0), .val (.int p1), .val (.int p2), .val (.int p3), .val (.int p4), .val (.int p5), .unset, .unset, .unset, .unset, .unset, .unset, .unset, .unset, .unset, .unset, .unset, .unset] [(.int (2147483647 : Int32)), (.int p0)]))
  refine Gl.by (fun t_ k_ => XS.iand X.here hx rfl (hb hby at_3) rfl k_) ?_
  show Gl p e below s room_1.cells room_1.slots (fun v h L => v = some (.int 1) ∧ Fr n0 L) (T.setTop (mkF m 4 #[.val (.int p0), .val (.int p1), .val (.int p2), .val (.int p3), .val (.int p4), .val (.int p5), .unset, .unset, .unset, .unset, .unset, .unset, .unset, .unset, .unset, .unset, .unset, .unset] [(.int (p0 &&& (2147483647 : Int32)))]))
  refine Gl.by (fun t_ k_ => XS.istore X.here hx rfl (hb hby at_4) rfl (l' := #[.val (.int p0), .val (.int p1), .val (.int p2), .val (.int p3), .val (.int p4), .val (.int p5), .val (.int (p0 &&& (2147483647 : Int32))), .unset, .unset, .unset, .unset, .unset, .unset, .unset, .unset, .unset, .unset, .unset]) rfl k_) ?_
  show Gl p e below s room_1.cells room_1.slots (fun v h L => v = some (.int 1) ∧ Fr n0 L) (T.setTop (mkF m 6 #[.val (.int p0), .val (.int p1), .val (.int p2), .val (.int p3), .val (.int p4), .val (.int p5), .val (.int (p0 &&& (2147483647 : Int32))), .unset, .unset, .unset, .unset, .unset, .unset, .unset, .unset, .unset, .unset, .unset] []))
  refine Gl.by (fun t_ k_ => XS.iload X.here hx rfl (hb hby at_6) rfl k_) ?_
  show Gl p e below s room_1.cells room_1.slots (fun v h L => v = some (.int 1) ∧ Fr n0 L) (T.setTop (mkF m 8 #[.val (.int p0), .val (.int p1), .val (.int p2), .val (.int p3), .val (.int p4), .val (.int p5), .val (.int (p0 &&& (2147483647 : Int32))), .unset, .unset, .unset, .unset, .unset, .unset, .unset, .unset, .unset, .unset, .unset] [(.int p5)]))
  refine Gl.by (fun t_ k_ => XS.iconst X.here hx rfl (hb hby at_8) k_) ?_
  show Gl p e below s room_1.cells room_1.slots (fun v h L => v = some (.int 1) ∧ Fr n0 L) (T.setTop (mkF m 9 #[.val (.int p0), .val (.int p1), .val (.int p2), .val (.int p3), .val (.int p4), .val (.int p5), .val (.int (p0 &&& (2147483647 : Int32))), .unset, .unset, .unset, .unset, .unset, .unset, .unset, .unset, .unset, .unset, .unset] [(.int (1 : Int32)), (.int p5)]))
  refine Gl.by (fun t_ k_ => XS.iand X.here hx rfl (hb hby at_9) rfl k_) ?_
  show Gl p e below s room_1.cells room_1.slots (fun v h L => v = some (.int 1) ∧ Fr n0 L) (T.setTop (mkF m 10 #[.val (.int p0), .val (.int p1), .val (.int p2), .val (.int p3), .val (.int p4), .val (.int p5), .val (.int (p0 &&& (2147483647 : Int32))), .unset, .unset, .unset, .unset, .unset, .unset, .unset, .unset, .unset, .unset, .unset] [(.int (p5 &&& (1 : Int32)))]))
  by_cases c0 : (p5 &&& (1 : Int32)) = (0 : Int32)
  · refine Gl.by (fun t_ k_ => XS.ifYes X.here hx rfl (pc0 := 10) (pc' := 18) rfl (hb hby at_10) rfl ((if0 _ _).trans (teq c0).1) (by decide) (by decide) k_) ?_
    show Gl p e below s room_1.cells room_1.slots (fun v h L => v = some (.int 1) ∧ Fr n0 L) (T.setTop (mkF m 18 #[.val (.int p0), .val (.int p1), .val (.int p2), .val (.int p3), .val (.int p4), .val (.int p5), .val (.int (p0 &&& (2147483647 : Int32))), .unset, .unset, .unset, .unset, .unset, .unset, .unset, .unset, .unset, .unset, .unset] []))
    refine Gl.by (fun t_ k_ => XS.iloadN X.here hx rfl (hb hby at_18) rfl k_) ?_
    show Gl p e below s room_1.cells room_1.slots (fun v h L => v = some (.int 1) ∧ Fr n0 L) (T.setTop (mkF m 19 #[.val (.int p0), .val (.int p1), .val (.int p2), .val (.int p3), .val (.int p4), .val (.int p5), .val (.int (p0 &&& (2147483647 : Int32))), .unset, .unset, .unset, .unset, .unset, .unset, .unset, .unset, .unset, .unset, .unset] [(.int p1)]))
    refine Gl.by (fun t_ k_ => X.ldcInt hx hown (mvT hZ (hw _ (List.mem_of_getElem? (i := 0) rfl))) (g := (mkF m 19 #[.val (.int p0), .val (.int p1), .val (.int p2), .val (.int p3), .val (.int p4), .val (.int p5), .val (.int (p0 &&& (2147483647 : Int32))), .unset, .unset, .unset, .unset, .unset, .unset, .unset, .unset, .unset, .unset, .unset] [(.int p1)])) rfl (hb hby at_19) _ k_) ?_
    show Gl p e below s room_1.cells room_1.slots (fun v h L => v = some (.int 1) ∧ Fr n0 L) (T.setTop (mkF m 21 #[.val (.int p0), .val (.int p1), .val (.int p2), .val (.int p3), .val (.int p4), .val (.int p5), .val (.int (p0 &&& (2147483647 : Int32))), .unset, .unset, .unset, .unset, .unset, .unset, .unset, .unset, .unset, .unset, .unset] [(.int (2147483647 : Int32)), (.int p1)]))
    refine Gl.by (fun t_ k_ => XS.iand X.here hx rfl (hb hby at_21) rfl k_) ?_
    show Gl p e below s room_1.cells room_1.slots (fun v h L => v = some (.int 1) ∧ Fr n0 L) (T.setTop (mkF m 22 #[.val (.int p0), .val (.int p1), .val (.int p2), .val (.int p3), .val (.int p4), .val (.int p5), .val (.int (p0 &&& (2147483647 : Int32))), .unset, .unset, .unset, .unset, .unset, .unset, .unset, .unset, .unset, .unset, .unset] [(.int (p1 &&& (2147483647 : Int32)))]))
    refine Gl.by (fun t_ k_ => XS.istore X.here hx rfl (hb hby at_22) rfl (l' := #[.val (.int p0), .val (.int p1), .val (.int p2), .val (.int p3), .val (.int p4), .val (.int p5), .val (.int (p0 &&& (2147483647 : Int32))), .val (.int (p1 &&& (2147483647 : Int32))), .unset, .unset, .unset, .unset, .unset, .unset, .unset, .unset, .unset, .unset]) rfl k_) ?_
    show Gl p e below s room_1.cells room_1.slots (fun v h L => v = some (.int 1) ∧ Fr n0 L) (T.setTop (mkF m 24 #[.val (.int p0), .val (.int p1), .val (.int p2), .val (.int p3), .val (.int p4), .val (.int p5), .val (.int (p0 &&& (2147483647 : Int32))), .val (.int (p1 &&& (2147483647 : Int32))), .unset, .unset, .unset, .unset, .unset, .unset, .unset, .unset, .unset, .unset] []))
    exact j24 _ _ (own_mask _) (own_mask _)
  · refine Gl.by (fun t_ k_ => XS.ifNo X.here hx rfl (hb hby at_10) rfl ((if0 _ _).trans (feq c0).1) k_) ?_
    show Gl p e below s room_1.cells room_1.slots (fun v h L => v = some (.int 1) ∧ Fr n0 L) (T.setTop (mkF m 13 #[.val (.int p0), .val (.int p1), .val (.int p2), .val (.int p3), .val (.int p4), .val (.int p5), .val (.int (p0 &&& (2147483647 : Int32))), .unset, .unset, .unset, .unset, .unset, .unset, .unset, .unset, .unset, .unset, .unset] []))
    refine Gl.by (fun t_ k_ => XS.iload X.here hx rfl (hb hby at_13) rfl k_) ?_
    show Gl p e below s room_1.cells room_1.slots (fun v h L => v = some (.int 1) ∧ Fr n0 L) (T.setTop (mkF m 15 #[.val (.int p0), .val (.int p1), .val (.int p2), .val (.int p3), .val (.int p4), .val (.int p5), .val (.int (p0 &&& (2147483647 : Int32))), .unset, .unset, .unset, .unset, .unset, .unset, .unset, .unset, .unset, .unset, .unset] [(.int (p0 &&& (2147483647 : Int32)))]))
    refine Gl.by (fun t_ k_ => XS.goto X.here hx rfl (pc0 := 15) (pc' := 22) rfl (hb hby at_15) (by decide) (by decide) k_) ?_
    show Gl p e below s room_1.cells room_1.slots (fun v h L => v = some (.int 1) ∧ Fr n0 L) (T.setTop (mkF m 22 #[.val (.int p0), .val (.int p1), .val (.int p2), .val (.int p3), .val (.int p4), .val (.int p5), .val (.int (p0 &&& (2147483647 : Int32))), .unset, .unset, .unset, .unset, .unset, .unset, .unset, .unset, .unset, .unset, .unset] [(.int (p0 &&& (2147483647 : Int32)))]))
    refine Gl.by (fun t_ k_ => XS.istore X.here hx rfl (hb hby at_22) rfl (l' := #[.val (.int p0), .val (.int p1), .val (.int p2), .val (.int p3), .val (.int p4), .val (.int p5), .val (.int (p0 &&& (2147483647 : Int32))), .val (.int (p0 &&& (2147483647 : Int32))), .unset, .unset, .unset, .unset, .unset, .unset, .unset, .unset, .unset, .unset]) rfl k_) ?_
    show Gl p e below s room_1.cells room_1.slots (fun v h L => v = some (.int 1) ∧ Fr n0 L) (T.setTop (mkF m 24 #[.val (.int p0), .val (.int p1), .val (.int p2), .val (.int p3), .val (.int p4), .val (.int p5), .val (.int (p0 &&& (2147483647 : Int32))), .val (.int (p0 &&& (2147483647 : Int32))), .unset, .unset, .unset, .unset, .unset, .unset, .unset, .unset, .unset, .unset] []))
    exact j24 _ _ (own_mask _) (own_mask _)
set_option maxRecDepth 65536 in
set_option maxHeartbeats 40000000 in
theorem comes_1 {Post : Tables → Env → Array Value → State → Outcome → State → Prop} (hpost : ∀ tb e args s v u, (limb_1_1.after args s (.returned v) u = true ∧ limb_1_2.after args s (.returned v) u = true ∧ True) → FrameEnd s (.returned v) u (Jvm.fieldLocs frame_1_writes args s ++ Jvm.arrayLocs frame_1_arrays args s ++ Jvm.staticLocs frame_1_statics s) 32 128 → Post tb e args s (.returned v) u) :
    ArmFor flags0 classFile x code maxLocals ret World_1 tables_1 room_1 Calls_1 rest_1 Pre_1 Post := by
  intro l hfl _ _ p e ha hc hk s m args below hf hA hF happ hP
  obtain ⟨hcalls, hrest, hpre⟩ := hP
  obtain ⟨-, -, -, hnamed, -, -, -, hat⟩ := (Spec.applies_iff hf).mp happ
  obtain ⟨hg, hn⟩ := and_e (Cond.before_iff.mp (show (Jvm.Cond.and given_1 narrow_1).before args s = true from hpre))
  obtain ⟨hcnt, u0⟩ := and_e hg
  obtain ⟨a0, u1⟩ := and_e u0
  obtain ⟨a1, u2⟩ := and_e u1
  obtain ⟨a2, u3⟩ := and_e u2
  obtain ⟨a3, u4⟩ := and_e u3
  obtain ⟨a4, u5⟩ := and_e u4
  obtain ⟨w0, w1, w2, w3, w4, w5, rfl⟩ : ∃ w0 w1 w2 w3 w4 w5 : Value, args = #[w0, w1, w2, w3, w4, w5] := by
    have hs : args.size = 6 := by simpa [Cond.value, given_1] using hcnt
    obtain ⟨L⟩ := args
    match L, hs with
    | [w0, w1, w2, w3, w4, w5], _ => exact ⟨w0, w1, w2, w3, w4, w5, rfl⟩
  have hw := fun d (hd : d ∈ tables_1) => atoms_spec (ws := Jvm.Cond.code x code maxLocals ret :: tables_1) hat d (List.mem_cons_of_mem _ hd)
  obtain ⟨hsets, hown0⟩ := atoms_of _ (rest_1_c_eq ▸ (show rest_1_c.before _ s = true from hrest))
  have hfit : Fit s := fun {y c} hc i hi => by
    obtain ⟨ha, rfl⟩ := Array.getElem?_eq_some_iff.mp hc
    have q := List.all_eq_true.mp ((Array.all_eq_true_iff_forall_mem.mp hF) _ (Array.getElem_mem ha)) i (List.mem_range.mpr hi)
    simpa [Array.getElem?_eq_getElem hi] using q
  obtain ⟨p0, e0⟩ := is_v a0
  obtain rfl : w0 = (.int p0) := Option.some.inj e0
  obtain ⟨p1, e1⟩ := is_v a1
  obtain rfl : w1 = (.int p1) := Option.some.inj e1
  obtain ⟨p2, e2⟩ := is_v a2
  obtain rfl : w2 = (.int p2) := Option.some.inj e2
  obtain ⟨p3, e3⟩ := is_v a3
  obtain rfl : w3 = (.int p3) := Option.some.inj e3
  obtain ⟨p4, e4⟩ := is_v a4
  obtain rfl : w4 = (.int p4) := Option.some.inj e4
  obtain ⟨p5, e5⟩ := is_v u5
  obtain rfl : w5 = (.int p5) := Option.some.inj e5
  have hic : ICok s := own_icok hw hsets
  obtain ⟨n, o, h1, h2, h3, _, L, rfl, ⟨rfl, N⟩, hq⟩ := own_law l s _ hw tables_1 p0 p1 p2 p3 p4 p5 s.heap s.heap.size (Nat.le_refl _) hic (Old.start s) p e ha hc hk s m _ below hf ((Spec.applies_iff_loose hf).mp happ).1 ⟨rfl, State.Warmed39.refl s, rfl⟩ trivial
  refine ⟨n, _, h1, h2, h3, hpost _ _ _ _ _ _ ⟨Cond.after_iff.mpr rfl, Cond.after_iff.mpr (eq_i res_at (Term.int_eval (1)) rfl), trivial⟩ ⟨hq.1, hq.2.1, (hq.2.2.sift fun y hy => Or.inr (N y hy)).mono (by decide) (by decide)⟩⟩
theorem main_1_1 : Claimed_1_1 := comes_1 fun _ _ _ _ _ _ h hF => ⟨h.1, hF⟩
theorem main_1_2 : Claimed_1_2 := comes_1 fun _ _ _ _ _ _ h hF => ⟨h.2.1, hF⟩
end Jvm.Pilot.@@N@@
namespace Jvm.Pilot.@@N@@
open Jvm Jvm.ClassFile Sem Op Lib Jvm.Free Jvm.Stand Jvm.Pilot.@@N@@.Jvm.D
/-! MADE BY PROGRAM (witnessworld.py) out of the Statement's table words and the real class files: 25 classes; the members and pool entries that the words name. The judged class is class 1, her method 1. -/
namespace start1
open Jvm.ClassFile
def u (s : String) : CpInfo := .utf8 (stringToUtf16 s)
/-- a pool by its gaps: so many unusable entries, then the entry; so many at the end -/
def gap : Nat → List CpInfo → List CpInfo
  | 0, r => r
  | n + 1, r => .unusable :: gap n r
def poolList (es : List (Nat × CpInfo)) (last : Nat) : List CpInfo := es.foldr (fun e r => gap e.1 (e.2 :: r)) (gap last [])
def pool (es : List (Nat × CpInfo)) (last : Nat) : Array CpInfo := ⟨poolList es last⟩
def fileOf (pool : Array CpInfo) (this : Nat) (attrs : Array Attribute := #[]) (ms : Array MethodInfo := #[]) (fl : Nat := 33) (sup : Nat := 0) (ifs : Array Nat := #[]) (fds : Array FieldInfo := #[]) : ClassFile where
  minorVersion := 0
  majorVersion := 65
  constantPool := pool
  accessFlags := fl
  thisClass := this
  superClass := sup
  interfaces := ifs
  fields := fds
  methods := ms
  attributes := attrs
def plain (name : String) (sup : Option ClassId) : Class where
  name := name
  kind := .ordinary
  loader := none
  accessFlags := 33
  super := sup
  interfaces := #[]
  cf := none
  fields := #[]
  methods := #[]
  instanceTypes := #[]
  staticTypes := #[]
  resolved := #[]
  callSites := []
  init := .initialized
  statics := none
  mirror := none

def pool0 : Array CpInfo := pool [(5, u "<init>"), (0, u "()V"), (1, .class_ 10), (1, u "java/lang/Object")] 113

def k0c0 : Code := { maxStack := 0, maxLocals := 1, code := object_method_1_code, exceptionTable := #[], attributes := #[] }
def k0m0 : Method := { name := "<init>", desc := "()V", sig := { parameters := [], returnType := none }, accessFlags := 1, code := some k0c0 }
/-- java/lang/Object -/
def k0 : Class := { plain "java/lang/Object" none with
  accessFlags := 33
  interfaces := #[]
  cf := some (fileOf pool0 8 #[] #[{ accessFlags := 1, nameIndex := 5, descriptorIndex := 6, attributes := #[] }] 33 0 #[] #[])
  fields := #[]
  methods := #[k0m0]
  instanceTypes := #[]
  staticTypes := #[]
  resolved := Array.replicate 124 none
  statics := none }

def pool1 : Array CpInfo := pool [(2, .class_ 4), (0, .nameAndType 5 6), (0, u "java/lang/Object"), (0, u "<init>"), (0, u "()V"), (0, .integer 2147483647), (0, .methodref 9 10), (0, .class_ 11), (0, .nameAndType 12 13), (0, u "java/lang/Integer"), (0, u "valueOf"), (0, u "(I)Ljava/lang/Integer;"), (0, .class_ 15), (0, u "com/example/hookwright/hookwright/ConstructorArgumentValues"), (0, .methodref 14 3), (0, .methodref 14 18), (0, .nameAndType 19 20), (0, u "addIndexedArgumentValue"), (0, u "(ILjava/lang/Object;)V"), (0, .methodref 14 22), (0, .nameAndType 23 24), (0, u "getArgumentCount"), (0, u "()I"), (0, .methodref 14 26), (0, .nameAndType 27 28), (0, u "isEmpty"), (0, u "()Z"), (0, .methodref 14 30), (0, .nameAndType 31 32), (0, u "getIndexedArgumentValue"), (0, u "(I)Ljava/lang/Object;"), (0, .methodref 14 34), (0, .nameAndType 35 36), (0, u "hasIndexedArgumentValue"), (0, u "(I)Z"), (0, .class_ 38), (0, u "com/example/hookwright/hookwright/ConstructorArgumentValuesAddIndexedArgumentValuePinLaw"), (2, u "law"), (0, u "(IIIIII)Z")] 3

def k1m0 : Method := { name := "<init>", desc := "()V", sig := { parameters := [], returnType := none }, accessFlags := 1, code := none }
def k1c1 : Code := { maxStack := 3, maxLocals := 18, code := code, exceptionTable := #[], attributes := #[] }
def k1m1 : Method := { name := "law", desc := "(IIIIII)Z", sig := { parameters := [.int, .int, .int, .int, .int, .int], returnType := some .boolean }, accessFlags := 9, code := some k1c1 }
/-- com/example/hookwright/hookwright/ConstructorArgumentValuesAddIndexedArgumentValuePinLaw -/
def k1 : Class := { plain "com/example/hookwright/hookwright/ConstructorArgumentValuesAddIndexedArgumentValuePinLaw" (some 0) with
  accessFlags := 49
  interfaces := #[]
  cf := some (fileOf pool1 37 #[] #[{ accessFlags := 1, nameIndex := 5, descriptorIndex := 6, attributes := #[] }, { accessFlags := 9, nameIndex := 41, descriptorIndex := 42, attributes := #[] }] 49 2 #[] #[])
  fields := #[]
  methods := #[k1m0, k1m1]
  instanceTypes := #[]
  staticTypes := #[]
  resolved := Array.replicate 46 none
  statics := none }

def pool2 : Array CpInfo := pool [(1, .class_ 2), (0, u "java/io/Serializable"), (0, .class_ 4), (0, u "java/lang/Object")] 2

/-- java/io/Serializable -/
def k2 : Class := { plain "java/io/Serializable" (some 0) with
  accessFlags := 1537
  interfaces := #[]
  cf := some (fileOf pool2 1 #[] #[] 1537 3 #[] #[])
  fields := #[]
  methods := #[]
  instanceTypes := #[]
  staticTypes := #[]
  resolved := Array.replicate 7 none
  statics := none }

def pool3 : Array CpInfo := pool [(1, .methodref 2 3), (0, .class_ 4), (0, .nameAndType 5 6), (0, u "java/lang/Object"), (0, u "<init>"), (0, u "()V"), (1, .class_ 10), (1, u "java/lang/Number"), (2, .class_ 14), (0, u "java/io/Serializable"), (0, u "serialVersionUID"), (0, u "J")] 20

def k3c0 : Code := { maxStack := 1, maxLocals := 1, code := jdk_18_method_1_code, exceptionTable := #[], attributes := #[] }
def k3m0 : Method := { name := "<init>", desc := "()V", sig := { parameters := [], returnType := none }, accessFlags := 1, code := some k3c0 }
/-- java/lang/Number -/
def k3 : Class := { plain "java/lang/Number" (some 0) with
  accessFlags := 1057
  interfaces := #[2]
  cf := some (fileOf pool3 8 #[] #[{ accessFlags := 1, nameIndex := 5, descriptorIndex := 6, attributes := #[] }] 1057 2 #[13] #[{ accessFlags := 26, nameIndex := 15, descriptorIndex := 16, attributes := #[] }])
  fields := #[{ name := "serialVersionUID", type := .long, accessFlags := 26, slot := 0, constantValue := 0 }]
  methods := #[k3m0]
  instanceTypes := #[]
  staticTypes := #[.long]
  resolved := Array.replicate 37 none
  statics := none }

def pool4 : Array CpInfo := pool [(1, .class_ 2), (0, u "java/lang/Comparable"), (0, .class_ 4), (0, u "java/lang/Object"), (0, u "compareTo"), (0, u "(Ljava/lang/Object;)I")] 5

def k4m0 : Method := { name := "compareTo", desc := "(Ljava/lang/Object;)I", sig := { parameters := [(.object "java/lang/Object")], returnType := some .int }, accessFlags := 1025, code := none }
/-- java/lang/Comparable -/
def k4 : Class := { plain "java/lang/Comparable" (some 0) with
  accessFlags := 1537
  interfaces := #[]
  cf := some (fileOf pool4 1 #[] #[{ accessFlags := 1025, nameIndex := 5, descriptorIndex := 6, attributes := #[] }] 1537 3 #[] #[])
  fields := #[]
  methods := #[k4m0]
  instanceTypes := #[]
  staticTypes := #[]
  resolved := Array.replicate 12 none
  statics := none }

def pool5 : Array CpInfo := pool [(1, .class_ 2), (0, u "java/lang/constant/Constable"), (0, .class_ 4), (0, u "java/lang/Object")] 6

/-- java/lang/constant/Constable -/
def k5 : Class := { plain "java/lang/constant/Constable" (some 0) with
  accessFlags := 1537
  interfaces := #[]
  cf := some (fileOf pool5 1 #[] #[] 1537 3 #[] #[])
  fields := #[]
  methods := #[]
  instanceTypes := #[]
  staticTypes := #[]
  resolved := Array.replicate 11 none
  statics := none }

def pool6 : Array CpInfo := pool [(1, .class_ 2), (0, u "java/lang/constant/ConstantDesc"), (0, .class_ 4), (0, u "java/lang/Object")] 32

/-- java/lang/constant/ConstantDesc -/
def k6 : Class := { plain "java/lang/constant/ConstantDesc" (some 0) with
  accessFlags := 1537
  interfaces := #[]
  cf := some (fileOf pool6 1 #[] #[] 1537 3 #[] #[])
  fields := #[]
  methods := #[]
  instanceTypes := #[]
  staticTypes := #[]
  resolved := Array.replicate 37 none
  statics := none }

def pool7 : Array CpInfo := pool [(1, .class_ 2), (0, u "java/lang/Integer"), (16, u "digits"), (0, u "[C"), (39, u "(II)I"), (6, u "<init>"), (17, u "DigitOnes"), (0, u "[B"), (2, u "DigitTens"), (10, .nameAndType 67 101), (0, u "()V"), (85, u "valueOf"), (0, u "(I)Ljava/lang/Integer;"), (0, .class_ 190), (0, u "java/lang/Integer$IntegerCache"), (0, .fieldref 189 192), (0, .nameAndType 193 194), (0, u "high"), (0, u "I"), (0, .fieldref 189 196), (0, .nameAndType 197 198), (0, u "cache"), (0, u "[Ljava/lang/Integer;"), (0, .methodref 1 200), (0, .nameAndType 67 201), (0, u "(I)V"), (0, .methodref 203 100), (0, .class_ 204), (0, u "java/lang/Number"), (0, .fieldref 1 206), (0, .nameAndType 207 194), (0, u "value"), (51, .methodref 1 260), (0, .nameAndType 261 60), (0, u "compare"), (22, .methodref 1 285), (0, .nameAndType 286 287), (0, u "compareTo"), (0, u "(Ljava/lang/Integer;)I"), (14, u "TYPE"), (0, u "Ljava/lang/Class;"), (0, .class_ 305), (0, u "java/lang/Comparable"), (0, .class_ 307), (0, u "java/lang/constant/Constable"), (0, .class_ 309), (0, u "java/lang/constant/ConstantDesc"), (0, u "MIN_VALUE"), (1, u "MAX_VALUE"), (3, u "SIZE"), (1, u "BYTES"), (1, u "serialVersionUID"), (0, u "J"), (113, u "(Ljava/lang/Object;)I")] 17

def k7c0 : Code := { maxStack := 3, maxLocals := 1, code := jdk_33_method_22_code, exceptionTable := #[], attributes := #[] }
def k7m0 : Method := { name := "valueOf", desc := "(I)Ljava/lang/Integer;", sig := { parameters := [.int], returnType := some (.object "java/lang/Integer") }, accessFlags := 9, code := some k7c0 }
def k7c1 : Code := { maxStack := 2, maxLocals := 2, code := jdk_33_method_23_code, exceptionTable := #[], attributes := #[] }
def k7m1 : Method := { name := "<init>", desc := "(I)V", sig := { parameters := [.int], returnType := none }, accessFlags := 1, code := some k7c1 }
def k7c2 : Code := { maxStack := 2, maxLocals := 2, code := jdk_33_method_39_code, exceptionTable := #[], attributes := #[] }
def k7m2 : Method := { name := "compareTo", desc := "(Ljava/lang/Integer;)I", sig := { parameters := [(.object "java/lang/Integer")], returnType := some .int }, accessFlags := 1, code := some k7c2 }
def k7c3 : Code := { maxStack := 2, maxLocals := 2, code := jdk_33_method_40_code, exceptionTable := #[], attributes := #[] }
def k7m3 : Method := { name := "compare", desc := "(II)I", sig := { parameters := [.int, .int], returnType := some .int }, accessFlags := 9, code := some k7c3 }
def k7c4 : Code := { maxStack := 2, maxLocals := 2, code := jdk_33_method_63_code, exceptionTable := #[], attributes := #[] }
def k7m4 : Method := { name := "compareTo", desc := "(Ljava/lang/Object;)I", sig := { parameters := [(.object "java/lang/Object")], returnType := some .int }, accessFlags := 4161, code := some k7c4 }
/-- java/lang/Integer -/
def k7 : Class := { plain "java/lang/Integer" (some 3) with
  accessFlags := 49
  interfaces := #[4, 5, 6]
  cf := some (fileOf pool7 1 #[.nestMembers #[189]] #[{ accessFlags := 9, nameIndex := 187, descriptorIndex := 188, attributes := #[] }, { accessFlags := 1, nameIndex := 67, descriptorIndex := 201, attributes := #[] }, { accessFlags := 1, nameIndex := 286, descriptorIndex := 287, attributes := #[] }, { accessFlags := 9, nameIndex := 261, descriptorIndex := 60, attributes := #[] }, { accessFlags := 4161, nameIndex := 286, descriptorIndex := 435, attributes := #[] }] 49 203 #[304, 306, 308] #[{ accessFlags := 25, nameIndex := 310, descriptorIndex := 194, attributes := #[] }, { accessFlags := 25, nameIndex := 312, descriptorIndex := 194, attributes := #[] }, { accessFlags := 25, nameIndex := 302, descriptorIndex := 303, attributes := #[] }, { accessFlags := 24, nameIndex := 19, descriptorIndex := 20, attributes := #[] }, { accessFlags := 24, nameIndex := 89, descriptorIndex := 86, attributes := #[] }, { accessFlags := 24, nameIndex := 85, descriptorIndex := 86, attributes := #[] }, { accessFlags := 18, nameIndex := 207, descriptorIndex := 194, attributes := #[] }, { accessFlags := 25, nameIndex := 316, descriptorIndex := 194, attributes := #[] }, { accessFlags := 25, nameIndex := 318, descriptorIndex := 194, attributes := #[] }, { accessFlags := 26, nameIndex := 320, descriptorIndex := 321, attributes := #[] }])
  fields := #[{ name := "MIN_VALUE", type := .int, accessFlags := 25, slot := 0, constantValue := 0 }, { name := "MAX_VALUE", type := .int, accessFlags := 25, slot := 1, constantValue := 0 }, { name := "TYPE", type := (.object "java/lang/Class"), accessFlags := 25, slot := 2, constantValue := 0 }, { name := "digits", type := (.array .char), accessFlags := 24, slot := 3, constantValue := 0 }, { name := "DigitTens", type := (.array .byte), accessFlags := 24, slot := 4, constantValue := 0 }, { name := "DigitOnes", type := (.array .byte), accessFlags := 24, slot := 5, constantValue := 0 }, { name := "value", type := .int, accessFlags := 18, slot := 0, constantValue := 0 }, { name := "SIZE", type := .int, accessFlags := 25, slot := 6, constantValue := 0 }, { name := "BYTES", type := .int, accessFlags := 25, slot := 7, constantValue := 0 }, { name := "serialVersionUID", type := .long, accessFlags := 26, slot := 8, constantValue := 0 }]
  methods := #[k7m0, k7m1, k7m2, k7m3, k7m4]
  instanceTypes := #[.int]
  staticTypes := #[.int, .int, (.object "java/lang/Class"), (.array .char), (.array .byte), (.array .byte), .int, .int, .long]
  resolved := Array.replicate 453 none
  statics := none }

def pool8 : Array CpInfo := pool [(2, .class_ 4), (1, u "java/lang/Object"), (0, u "<init>"), (0, u "()V"), (0, .class_ 8), (0, u "java/lang/Integer"), (7, .class_ 18), (1, u "java/lang/Integer$IntegerCache"), (0, u "$assertionsDisabled"), (0, u "Z"), (26, u "high"), (0, u "I"), (8, u "archivedCache"), (0, u "[Ljava/lang/Integer;"), (12, u "cache"), (0, u "low")] 27

def k8m0 : Method := { name := "<init>", desc := "()V", sig := { parameters := [], returnType := none }, accessFlags := 2, code := none }
/-- java/lang/Integer$IntegerCache -/
def k8 : Class := { plain "java/lang/Integer$IntegerCache" (some 0) with
  accessFlags := 48
  interfaces := #[]
  cf := some (fileOf pool8 16 #[.nestHost 7] #[{ accessFlags := 2, nameIndex := 5, descriptorIndex := 6, attributes := #[] }] 48 2 #[] #[{ accessFlags := 24, nameIndex := 72, descriptorIndex := 48, attributes := #[] }, { accessFlags := 24, nameIndex := 47, descriptorIndex := 48, attributes := #[] }, { accessFlags := 24, nameIndex := 71, descriptorIndex := 58, attributes := #[] }, { accessFlags := 8, nameIndex := 57, descriptorIndex := 58, attributes := #[] }, { accessFlags := 4120, nameIndex := 19, descriptorIndex := 20, attributes := #[] }])
  fields := #[{ name := "low", type := .int, accessFlags := 24, slot := 0, constantValue := 0 }, { name := "high", type := .int, accessFlags := 24, slot := 1, constantValue := 0 }, { name := "cache", type := (.array (.object "java/lang/Integer")), accessFlags := 24, slot := 2, constantValue := 0 }, { name := "archivedCache", type := (.array (.object "java/lang/Integer")), accessFlags := 8, slot := 3, constantValue := 0 }, { name := "$assertionsDisabled", type := .boolean, accessFlags := 4120, slot := 4, constantValue := 0 }]
  methods := #[k8m0]
  instanceTypes := #[]
  staticTypes := #[.int, .int, (.array (.object "java/lang/Integer")), (.array (.object "java/lang/Integer")), .boolean]
  resolved := Array.replicate 100 none
  statics := some 0 }

def pool9 : Array CpInfo := pool [(1, .methodref 2 3), (0, .class_ 4), (0, .nameAndType 5 6), (0, u "java/lang/Object"), (0, u "<init>"), (0, u "()V"), (0, .class_ 8), (0, u "java/util/TreeMap"), (0, .methodref 7 3), (0, .fieldref 11 12), (0, .class_ 13), (0, .nameAndType 14 15), (0, u "com/example/hookwright/hookwright/ConstructorArgumentValues"), (0, u "values"), (0, u "Ljava/util/Map;"), (9, .methodref 26 27), (0, .class_ 28), (0, .nameAndType 29 30), (0, u "java/lang/Integer"), (0, u "valueOf"), (0, u "(I)Ljava/lang/Integer;"), (0, .interfaceMethodref 32 33), (0, .class_ 34), (0, .nameAndType 35 36), (0, u "java/util/Map"), (0, u "put"), (0, u "(Ljava/lang/Object;Ljava/lang/Object;)Ljava/lang/Object;"), (0, .interfaceMethodref 32 38), (0, .nameAndType 39 40), (0, u "containsKey"), (0, u "(Ljava/lang/Object;)Z"), (0, .interfaceMethodref 32 42), (0, .nameAndType 43 44), (0, u "get"), (0, u "(Ljava/lang/Object;)Ljava/lang/Object;"), (0, .interfaceMethodref 32 46), (0, .nameAndType 47 48), (0, u "size"), (0, u "()I"), (0, .interfaceMethodref 32 50), (0, .nameAndType 51 52), (0, u "isEmpty"), (0, u "()Z"), (54, u "addIndexedArgumentValue"), (0, u "(ILjava/lang/Object;)V"), (1, u "hasIndexedArgumentValue"), (0, u "(I)Z"), (0, u "getIndexedArgumentValue"), (0, u "(I)Ljava/lang/Object;"), (0, u "getArgumentCount")] 23

def k9c0 : Code := { maxStack := 3, maxLocals := 1, code := prog_22_method_1_code, exceptionTable := #[], attributes := #[] }
def k9m0 : Method := { name := "<init>", desc := "()V", sig := { parameters := [], returnType := none }, accessFlags := 1, code := some k9c0 }
def k9c1 : Code := { maxStack := 3, maxLocals := 3, code := prog_22_method_2_code, exceptionTable := #[], attributes := #[] }
def k9m1 : Method := { name := "addIndexedArgumentValue", desc := "(ILjava/lang/Object;)V", sig := { parameters := [.int, (.object "java/lang/Object")], returnType := none }, accessFlags := 1, code := some k9c1 }
def k9c2 : Code := { maxStack := 2, maxLocals := 2, code := prog_22_method_3_code, exceptionTable := #[], attributes := #[] }
def k9m2 : Method := { name := "hasIndexedArgumentValue", desc := "(I)Z", sig := { parameters := [.int], returnType := some .boolean }, accessFlags := 1, code := some k9c2 }
def k9c3 : Code := { maxStack := 2, maxLocals := 2, code := prog_22_method_4_code, exceptionTable := #[], attributes := #[] }
def k9m3 : Method := { name := "getIndexedArgumentValue", desc := "(I)Ljava/lang/Object;", sig := { parameters := [.int], returnType := some (.object "java/lang/Object") }, accessFlags := 1, code := some k9c3 }
def k9c4 : Code := { maxStack := 1, maxLocals := 1, code := prog_22_method_5_code, exceptionTable := #[], attributes := #[] }
def k9m4 : Method := { name := "getArgumentCount", desc := "()I", sig := { parameters := [], returnType := some .int }, accessFlags := 1, code := some k9c4 }
def k9c5 : Code := { maxStack := 1, maxLocals := 1, code := prog_22_method_6_code, exceptionTable := #[], attributes := #[] }
def k9m5 : Method := { name := "isEmpty", desc := "()Z", sig := { parameters := [], returnType := some .boolean }, accessFlags := 1, code := some k9c5 }
/-- com/example/hookwright/hookwright/ConstructorArgumentValues -/
def k9 : Class := { plain "com/example/hookwright/hookwright/ConstructorArgumentValues" (some 0) with
  accessFlags := 49
  interfaces := #[]
  cf := some (fileOf pool9 11 #[] #[{ accessFlags := 1, nameIndex := 5, descriptorIndex := 6, attributes := #[] }, { accessFlags := 1, nameIndex := 107, descriptorIndex := 108, attributes := #[] }, { accessFlags := 1, nameIndex := 110, descriptorIndex := 111, attributes := #[] }, { accessFlags := 1, nameIndex := 112, descriptorIndex := 113, attributes := #[] }, { accessFlags := 1, nameIndex := 114, descriptorIndex := 48, attributes := #[] }, { accessFlags := 1, nameIndex := 51, descriptorIndex := 52, attributes := #[] }] 49 2 #[] #[{ accessFlags := 18, nameIndex := 14, descriptorIndex := 15, attributes := #[] }])
  fields := #[{ name := "values", type := (.object "java/util/Map"), accessFlags := 18, slot := 0, constantValue := 0 }]
  methods := #[k9m0, k9m1, k9m2, k9m3, k9m4, k9m5]
  instanceTypes := #[(.object "java/util/Map")]
  staticTypes := #[]
  resolved := Array.replicate 138 none
  statics := none }

def pool10 : Array CpInfo := pool [(2, .class_ 4), (1, u "java/util/Map"), (0, u "get"), (0, u "(Ljava/lang/Object;)Ljava/lang/Object;"), (2, u "containsKey"), (0, u "(Ljava/lang/Object;)Z"), (20, u "()Z"), (4, .class_ 37), (0, u "java/util/Map$Entry"), (25, u "(Ljava/lang/Object;Ljava/lang/Object;)Ljava/lang/Object;"), (5, u "put"), (23, .class_ 94), (0, u "java/lang/Object"), (10, u "isEmpty"), (14, u "size"), (0, u "()I")] 141

def k10m0 : Method := { name := "size", desc := "()I", sig := { parameters := [], returnType := some .int }, accessFlags := 1025, code := none }
def k10m1 : Method := { name := "isEmpty", desc := "()Z", sig := { parameters := [], returnType := some .boolean }, accessFlags := 1025, code := none }
def k10m2 : Method := { name := "containsKey", desc := "(Ljava/lang/Object;)Z", sig := { parameters := [(.object "java/lang/Object")], returnType := some .boolean }, accessFlags := 1025, code := none }
def k10m3 : Method := { name := "get", desc := "(Ljava/lang/Object;)Ljava/lang/Object;", sig := { parameters := [(.object "java/lang/Object")], returnType := some (.object "java/lang/Object") }, accessFlags := 1025, code := none }
def k10m4 : Method := { name := "put", desc := "(Ljava/lang/Object;Ljava/lang/Object;)Ljava/lang/Object;", sig := { parameters := [(.object "java/lang/Object"), (.object "java/lang/Object")], returnType := some (.object "java/lang/Object") }, accessFlags := 1025, code := none }
/-- java/util/Map -/
def k10 : Class := { plain "java/util/Map" (some 0) with
  accessFlags := 1537
  interfaces := #[]
  cf := some (fileOf pool10 2 #[.nestMembers #[36]] #[{ accessFlags := 1025, nameIndex := 120, descriptorIndex := 121, attributes := #[] }, { accessFlags := 1025, nameIndex := 105, descriptorIndex := 31, attributes := #[] }, { accessFlags := 1025, nameIndex := 9, descriptorIndex := 10, attributes := #[] }, { accessFlags := 1025, nameIndex := 5, descriptorIndex := 6, attributes := #[] }, { accessFlags := 1025, nameIndex := 69, descriptorIndex := 63, attributes := #[] }] 1537 93 #[] #[])
  fields := #[]
  methods := #[k10m0, k10m1, k10m2, k10m3, k10m4]
  instanceTypes := #[]
  staticTypes := #[]
  resolved := Array.replicate 263 none
  statics := none }

def pool11 : Array CpInfo := pool [(1, .methodref 2 3), (0, .class_ 4), (0, .nameAndType 5 6), (0, u "java/lang/Object"), (0, u "<init>"), (0, u "()V"), (1, .class_ 10), (1, u "java/util/AbstractMap"), (4, .nameAndType 17 18), (1, u "size"), (0, u "()I"), (0, .methodref 8 15), (9, u "()Z"), (23, .class_ 54), (0, u "java/util/Map"), (9, u "keySet"), (0, u "Ljava/util/Set;"), (0, .class_ 67), (0, u "java/util/AbstractMap$1"), (5, u "values"), (0, u "Ljava/util/Collection;"), (0, .class_ 76), (0, u "java/util/AbstractMap$2"), (47, u "isEmpty"), (56, .class_ 182), (0, u "java/util/AbstractMap$ViewCollection"), (0, .class_ 184), (0, u "java/util/AbstractMap$SimpleImmutableEntry"), (0, .class_ 186), (0, u "java/util/AbstractMap$SimpleEntry"), (0, .class_ 188), (0, u "java/util/AbstractMap$2$1"), (0, .class_ 190), (0, u "java/util/AbstractMap$1$1")] 5

def k11c0 : Code := { maxStack := 1, maxLocals := 1, code := jdk_71_method_1_code, exceptionTable := #[], attributes := #[] }
def k11m0 : Method := { name := "<init>", desc := "()V", sig := { parameters := [], returnType := none }, accessFlags := 4, code := some k11c0 }
def k11c1 : Code := { maxStack := 1, maxLocals := 1, code := ⟨(Jvm.ClassFile.Facts.bytesFrom (jdk_71_file.n >>> 22848) 10).toArray⟩, exceptionTable := #[], attributes := #[] }
def k11m1 : Method := { name := "size", desc := "()I", sig := { parameters := [], returnType := some .int }, accessFlags := 1, code := some k11c1 }
def k11c2 : Code := { maxStack := 1, maxLocals := 1, code := jdk_71_method_3_code, exceptionTable := #[], attributes := #[] }
def k11m2 : Method := { name := "isEmpty", desc := "()Z", sig := { parameters := [], returnType := some .boolean }, accessFlags := 1, code := some k11c2 }
/-- java/util/AbstractMap -/
def k11 : Class := { plain "java/util/AbstractMap" (some 0) with
  accessFlags := 1057
  interfaces := #[10]
  cf := some (fileOf pool11 8 #[.nestMembers #[181, 183, 185, 75, 187, 66, 189]] #[{ accessFlags := 4, nameIndex := 5, descriptorIndex := 6, attributes := #[] }, { accessFlags := 1, nameIndex := 17, descriptorIndex := 18, attributes := #[] }, { accessFlags := 1, nameIndex := 124, descriptorIndex := 29, attributes := #[] }] 1057 2 #[53] #[{ accessFlags := 128, nameIndex := 64, descriptorIndex := 65, attributes := #[] }, { accessFlags := 128, nameIndex := 73, descriptorIndex := 74, attributes := #[] }])
  fields := #[{ name := "keySet", type := (.object "java/util/Set"), accessFlags := 128, slot := 0, constantValue := 0 }, { name := "values", type := (.object "java/util/Collection"), accessFlags := 128, slot := 1, constantValue := 0 }]
  methods := #[k11m0, k11m1, k11m2]
  instanceTypes := #[(.object "java/util/Set"), (.object "java/util/Collection")]
  staticTypes := #[]
  resolved := Array.replicate 196 none
  statics := none }

def pool12 : Array CpInfo := pool [(2, .class_ 4), (1, u "java/util/SequencedMap"), (38, .class_ 44), (0, u "java/util/SequencedMap$1SeqKeySet"), (3, .class_ 49), (0, u "java/util/SequencedMap$1SeqValues"), (1, .class_ 52), (0, u "java/util/SequencedMap$1SeqEntrySet"), (1, .class_ 55), (0, u "java/lang/Object"), (0, .class_ 57), (0, u "java/util/Map")] 48

/-- java/util/SequencedMap -/
def k12 : Class := { plain "java/util/SequencedMap" (some 0) with
  accessFlags := 1537
  interfaces := #[10]
  cf := some (fileOf pool12 2 #[.nestMembers #[51, 48, 43]] #[] 1537 54 #[56] #[])
  fields := #[]
  methods := #[]
  instanceTypes := #[]
  staticTypes := #[]
  resolved := Array.replicate 106 none
  statics := none }

def pool13 : Array CpInfo := pool [(14, .class_ 16), (1, u "java/util/SortedMap"), (2, .class_ 20), (0, u "java/lang/Object"), (0, .class_ 22), (0, u "java/util/SequencedMap")] 50

/-- java/util/SortedMap -/
def k13 : Class := { plain "java/util/SortedMap" (some 0) with
  accessFlags := 1537
  interfaces := #[12]
  cf := some (fileOf pool13 14 #[] #[] 1537 19 #[21] #[])
  fields := #[]
  methods := #[]
  instanceTypes := #[]
  staticTypes := #[]
  resolved := Array.replicate 73 none
  statics := none }

def pool14 : Array CpInfo := pool [(2, .class_ 4), (1, u "java/util/NavigableMap"), (5, .class_ 11), (0, u "java/lang/Object"), (0, .class_ 13), (0, u "java/util/SortedMap")] 53

/-- java/util/NavigableMap -/
def k14 : Class := { plain "java/util/NavigableMap" (some 0) with
  accessFlags := 1537
  interfaces := #[13]
  cf := some (fileOf pool14 2 #[] #[] 1537 10 #[12] #[])
  fields := #[]
  methods := #[]
  instanceTypes := #[]
  staticTypes := #[]
  resolved := Array.replicate 67 none
  statics := none }

def pool15 : Array CpInfo := pool [(1, .class_ 2), (0, u "java/lang/Cloneable"), (0, .class_ 4), (0, u "java/lang/Object")] 2

/-- java/lang/Cloneable -/
def k15 : Class := { plain "java/lang/Cloneable" (some 0) with
  accessFlags := 1537
  interfaces := #[]
  cf := some (fileOf pool15 1 #[] #[] 1537 3 #[] #[])
  fields := #[]
  methods := #[]
  instanceTypes := #[]
  staticTypes := #[]
  resolved := Array.replicate 7 none
  statics := none }

def pool16 : Array CpInfo := pool [(1, .methodref 2 3), (0, .class_ 4), (0, .nameAndType 5 6), (0, u "java/util/AbstractMap"), (0, u "<init>"), (0, u "()V"), (0, .fieldref 8 9), (0, .class_ 10), (0, .nameAndType 11 12), (0, u "java/util/TreeMap"), (0, u "size"), (0, u "I"), (0, .fieldref 8 14), (0, .nameAndType 15 12), (0, u "modCount"), (0, .fieldref 8 17), (0, .nameAndType 18 19), (0, u "comparator"), (0, u "Ljava/util/Comparator;"), (11, u "()I"), (2, u "entrySet"), (15, .methodref 8 51), (0, .nameAndType 52 53), (0, u "getEntry"), (0, u "(Ljava/lang/Object;)Ljava/util/TreeMap$Entry;"), (4, .fieldref 59 60), (0, .class_ 61), (0, .nameAndType 62 63), (0, u "java/util/TreeMap$Entry"), (0, u "value"), (0, u "Ljava/lang/Object;"), (10, u "key"), (11, .class_ 88), (1, u "java/util/Objects"), (6, .methodref 86 96), (0, .nameAndType 97 98), (0, u "requireNonNull"), (0, u "(Ljava/lang/Object;)Ljava/lang/Object;"), (0, .class_ 100), (0, u "java/lang/Comparable"), (0, .fieldref 8 102), (0, .nameAndType 103 104), (0, u "root"), (0, u "Ljava/util/TreeMap$Entry;"), (0, .fieldref 59 106), (0, .nameAndType 74 63), (0, .interfaceMethodref 99 108), (0, .nameAndType 109 110), (0, u "compareTo"), (0, u "(Ljava/lang/Object;)I"), (0, .fieldref 59 112), (0, .nameAndType 113 104), (0, u "left"), (0, .fieldref 59 115), (0, .nameAndType 116 104), (0, u "right"), (2, .nameAndType 121 122), (1, u "compare"), (0, u "(Ljava/lang/Object;Ljava/lang/Object;)I"), (0, .methodref 8 119), (0, .fieldref 59 125), (0, .nameAndType 126 104), (0, u "parent"), (0, .methodref 8 128), (0, .nameAndType 129 130), (0, u "put"), (0, u "(Ljava/lang/Object;Ljava/lang/Object;Z)Ljava/lang/Object;"), (4, .methodref 8 136), (0, .nameAndType 137 138), (0, u "addEntryToEmptyMap"), (0, u "(Ljava/lang/Object;Ljava/lang/Object;)V"), (0, .methodref 8 140), (0, .nameAndType 141 142), (0, u "addEntry"), (0, u "(Ljava/lang/Object;Ljava/lang/Object;Ljava/util/TreeMap$Entry;Z)V"), (23, u "(Ljava/lang/Object;Ljava/lang/Object;)Ljava/lang/Object;"), (0, .methodref 59 168), (0, .nameAndType 5 169), (0, u "(Ljava/lang/Object;Ljava/lang/Object;Ljava/util/TreeMap$Entry;)V"), (0, .methodref 8 171), (0, .nameAndType 172 173), (0, u "fixAfterInsertion"), (0, u "(Ljava/util/TreeMap$Entry;)V"), (16, u "Ljava/util/TreeMap$EntrySet;"), (2, u "navigableKeySet"), (0, u "Ljava/util/TreeMap$KeySet;"), (2, u "descendingMap"), (0, u "Ljava/util/NavigableMap;"), (23, .class_ 223), (0, u "java/util/TreeMap$KeySet"), (7, .class_ 232), (0, u "java/util/NavigableMap"), (4, .class_ 238), (0, u "java/util/TreeMap$Values"), (3, .class_ 243), (0, u "java/util/TreeMap$EntrySet"), (1, .class_ 246), (0, u "java/util/TreeMap$DescendingSubMap"), (3, .class_ 251), (0, u "java/util/TreeMap$AscendingSubMap"), (17, .class_ 270), (0, u "java/util/TreeMap$KeyIterator"), (3, .class_ 275), (0, u "java/util/TreeMap$DescendingKeyIterator"), (5, u "(Ljava/lang/Object;)Z"), (8, .fieldref 59 291), (0, .nameAndType 292 293), (0, u "color"), (0, u "Z"), (94, .class_ 389), (0, u "java/util/TreeMap$NavigableSubMap"), (1, .class_ 392), (0, u "java/util/TreeMap$KeySpliterator"), (3, .class_ 397), (0, u "java/util/TreeMap$DescendingKeySpliterator"), (4, u "UNBOUNDED"), (0, .class_ 404), (0, u "java/lang/Cloneable"), (0, .class_ 406), (0, u "java/io/Serializable"), (6, u "RED"), (2, u "BLACK"), (1, u "serialVersionUID"), (0, u "J"), (20, u "containsKey"), (2, u "get"), (190, .class_ 635), (0, u "java/util/TreeMap$EntrySpliterator"), (0, .class_ 637), (0, u "java/util/TreeMap$ValueSpliterator"), (0, .class_ 639), (0, u "java/util/TreeMap$TreeMapSpliterator"), (0, .class_ 641), (0, u "java/util/TreeMap$SubMap"), (0, .class_ 643), (0, u "java/util/TreeMap$DescendingSubMap$DescendingEntrySetView"), (0, .class_ 645), (0, u "java/util/TreeMap$AscendingSubMap$AscendingEntrySetView"), (0, .class_ 647), (0, u "java/util/TreeMap$NavigableSubMap$DescendingSubMapKeyIterator"), (0, .class_ 649), (0, u "java/util/TreeMap$NavigableSubMap$SubMapKeyIterator"), (0, .class_ 651), (0, u "java/util/TreeMap$NavigableSubMap$DescendingSubMapEntryIterator"), (0, .class_ 653), (0, u "java/util/TreeMap$NavigableSubMap$SubMapEntryIterator"), (0, .class_ 655), (0, u "java/util/TreeMap$NavigableSubMap$SubMapIterator"), (0, .class_ 657), (0, u "java/util/TreeMap$NavigableSubMap$EntrySetView"), (0, .class_ 659), (0, u "java/util/TreeMap$ValueIterator"), (0, .class_ 661), (0, u "java/util/TreeMap$EntryIterator"), (0, .class_ 663), (0, u "java/util/TreeMap$PrivateEntryIterator")] 28

def k16c0 : Code := { maxStack := 2, maxLocals := 1, code := jdk_2729_method_1_code, exceptionTable := #[], attributes := #[] }
def k16m0 : Method := { name := "<init>", desc := "()V", sig := { parameters := [], returnType := none }, accessFlags := 1, code := some k16c0 }
def k16c1 : Code := { maxStack := 1, maxLocals := 1, code := jdk_2729_method_5_code, exceptionTable := #[], attributes := #[] }
def k16m1 : Method := { name := "size", desc := "()I", sig := { parameters := [], returnType := some .int }, accessFlags := 1, code := some k16c1 }
def k16c2 : Code := { maxStack := 2, maxLocals := 2, code := jdk_2729_method_6_code, exceptionTable := #[], attributes := #[] }
def k16m2 : Method := { name := "containsKey", desc := "(Ljava/lang/Object;)Z", sig := { parameters := [(.object "java/lang/Object")], returnType := some .boolean }, accessFlags := 1, code := some k16c2 }
def k16c3 : Code := { maxStack := 2, maxLocals := 3, code := jdk_2729_method_8_code, exceptionTable := #[], attributes := #[] }
def k16m3 : Method := { name := "get", desc := "(Ljava/lang/Object;)Ljava/lang/Object;", sig := { parameters := [(.object "java/lang/Object")], returnType := some (.object "java/lang/Object") }, accessFlags := 1, code := some k16c3 }
def k16c4 : Code := { maxStack := 2, maxLocals := 5, code := jdk_2729_method_15_code, exceptionTable := #[], attributes := #[] }
def k16m4 : Method := { name := "getEntry", desc := "(Ljava/lang/Object;)Ljava/util/TreeMap$Entry;", sig := { parameters := [(.object "java/lang/Object")], returnType := some (.object "java/util/TreeMap$Entry") }, accessFlags := 16, code := some k16c4 }
def k16c5 : Code := { maxStack := 4, maxLocals := 3, code := jdk_2729_method_21_code, exceptionTable := #[], attributes := #[] }
def k16m5 : Method := { name := "put", desc := "(Ljava/lang/Object;Ljava/lang/Object;)Ljava/lang/Object;", sig := { parameters := [(.object "java/lang/Object"), (.object "java/lang/Object")], returnType := some (.object "java/lang/Object") }, accessFlags := 1, code := some k16c5 }
def k16c6 : Code := { maxStack := 5, maxLocals := 6, code := jdk_2729_method_29_code, exceptionTable := #[], attributes := #[] }
def k16m6 : Method := { name := "addEntry", desc := "(Ljava/lang/Object;Ljava/lang/Object;Ljava/util/TreeMap$Entry;Z)V", sig := { parameters := [(.object "java/lang/Object"), (.object "java/lang/Object"), (.object "java/util/TreeMap$Entry"), .boolean], returnType := none }, accessFlags := 2, code := some k16c6 }
def k16c7 : Code := { maxStack := 6, maxLocals := 3, code := jdk_2729_method_30_code, exceptionTable := #[], attributes := #[] }
def k16m7 : Method := { name := "addEntryToEmptyMap", desc := "(Ljava/lang/Object;Ljava/lang/Object;)V", sig := { parameters := [(.object "java/lang/Object"), (.object "java/lang/Object")], returnType := none }, accessFlags := 2, code := some k16c7 }
def k16c8 : Code := { maxStack := 5, maxLocals := 10, code := jdk_2729_method_31_code, exceptionTable := #[], attributes := #[] }
def k16m8 : Method := { name := "put", desc := "(Ljava/lang/Object;Ljava/lang/Object;Z)Ljava/lang/Object;", sig := { parameters := [(.object "java/lang/Object"), (.object "java/lang/Object"), .boolean], returnType := some (.object "java/lang/Object") }, accessFlags := 2, code := some k16c8 }
def k16c9 : Code := { maxStack := 3, maxLocals := 3, code := jdk_2729_method_67_code, exceptionTable := #[], attributes := #[] }
def k16m9 : Method := { name := "compare", desc := "(Ljava/lang/Object;Ljava/lang/Object;)I", sig := { parameters := [(.object "java/lang/Object"), (.object "java/lang/Object")], returnType := some .int }, accessFlags := 16, code := some k16c9 }
def k16c10 : Code := { maxStack := 2, maxLocals := 3, code := jdk_2729_method_83_code, exceptionTable := #[], attributes := #[] }
def k16m10 : Method := { name := "fixAfterInsertion", desc := "(Ljava/util/TreeMap$Entry;)V", sig := { parameters := [(.object "java/util/TreeMap$Entry")], returnType := none }, accessFlags := 2, code := some k16c10 }
/-- java/util/TreeMap -/
def k16 : Class := { plain "java/util/TreeMap" (some 11) with
  accessFlags := 33
  interfaces := #[14, 15, 2]
  cf := some (fileOf pool16 8 #[.nestMembers #[634, 636, 396, 391, 638, 59, 640, 245, 642, 250, 644, 388, 646, 648, 650, 652, 654, 656, 274, 269, 658, 660, 662, 222, 242, 237]] #[{ accessFlags := 1, nameIndex := 5, descriptorIndex := 6, attributes := #[] }, { accessFlags := 1, nameIndex := 11, descriptorIndex := 31, attributes := #[] }, { accessFlags := 1, nameIndex := 440, descriptorIndex := 281, attributes := #[] }, { accessFlags := 1, nameIndex := 443, descriptorIndex := 98, attributes := #[] }, { accessFlags := 16, nameIndex := 52, descriptorIndex := 53, attributes := #[] }, { accessFlags := 1, nameIndex := 129, descriptorIndex := 166, attributes := #[] }, { accessFlags := 2, nameIndex := 141, descriptorIndex := 142, attributes := #[] }, { accessFlags := 2, nameIndex := 137, descriptorIndex := 138, attributes := #[] }, { accessFlags := 2, nameIndex := 129, descriptorIndex := 130, attributes := #[] }, { accessFlags := 16, nameIndex := 121, descriptorIndex := 122, attributes := #[] }, { accessFlags := 2, nameIndex := 172, descriptorIndex := 173, attributes := #[] }] 33 2 #[231, 403, 405] #[{ accessFlags := 18, nameIndex := 18, descriptorIndex := 19, attributes := #[] }, { accessFlags := 130, nameIndex := 103, descriptorIndex := 104, attributes := #[] }, { accessFlags := 130, nameIndex := 11, descriptorIndex := 12, attributes := #[] }, { accessFlags := 130, nameIndex := 15, descriptorIndex := 12, attributes := #[] }, { accessFlags := 130, nameIndex := 34, descriptorIndex := 190, attributes := #[] }, { accessFlags := 130, nameIndex := 193, descriptorIndex := 194, attributes := #[] }, { accessFlags := 130, nameIndex := 197, descriptorIndex := 198, attributes := #[] }, { accessFlags := 26, nameIndex := 402, descriptorIndex := 63, attributes := #[] }, { accessFlags := 26, nameIndex := 413, descriptorIndex := 293, attributes := #[] }, { accessFlags := 26, nameIndex := 416, descriptorIndex := 293, attributes := #[] }, { accessFlags := 26, nameIndex := 418, descriptorIndex := 419, attributes := #[] }])
  fields := #[{ name := "comparator", type := (.object "java/util/Comparator"), accessFlags := 18, slot := 2, constantValue := 0 }, { name := "root", type := (.object "java/util/TreeMap$Entry"), accessFlags := 130, slot := 3, constantValue := 0 }, { name := "size", type := .int, accessFlags := 130, slot := 4, constantValue := 0 }, { name := "modCount", type := .int, accessFlags := 130, slot := 5, constantValue := 0 }, { name := "entrySet", type := (.object "java/util/TreeMap$EntrySet"), accessFlags := 130, slot := 6, constantValue := 0 }, { name := "navigableKeySet", type := (.object "java/util/TreeMap$KeySet"), accessFlags := 130, slot := 7, constantValue := 0 }, { name := "descendingMap", type := (.object "java/util/NavigableMap"), accessFlags := 130, slot := 8, constantValue := 0 }, { name := "UNBOUNDED", type := (.object "java/lang/Object"), accessFlags := 26, slot := 0, constantValue := 0 }, { name := "RED", type := .boolean, accessFlags := 26, slot := 1, constantValue := 0 }, { name := "BLACK", type := .boolean, accessFlags := 26, slot := 2, constantValue := 0 }, { name := "serialVersionUID", type := .long, accessFlags := 26, slot := 3, constantValue := 0 }]
  methods := #[k16m0, k16m1, k16m2, k16m3, k16m4, k16m5, k16m6, k16m7, k16m8, k16m9, k16m10]
  instanceTypes := #[(.object "java/util/Set"), (.object "java/util/Collection"), (.object "java/util/Comparator"), (.object "java/util/TreeMap$Entry"), .int, .int, (.object "java/util/TreeMap$EntrySet"), (.object "java/util/TreeMap$KeySet"), (.object "java/util/NavigableMap")]
  staticTypes := #[(.object "java/lang/Object"), .boolean, .boolean, .long]
  resolved := Array.replicate 692 none
  statics := none }

def pool17 : Array CpInfo := pool [(23, .class_ 25), (1, u "java/util/Map$Entry"), (6, .class_ 34), (1, u "java/util/Map"), (34, .class_ 70), (0, u "java/lang/Object")] 107

/-- java/util/Map$Entry -/
def k17 : Class := { plain "java/util/Map$Entry" (some 0) with
  accessFlags := 1537
  interfaces := #[]
  cf := some (fileOf pool17 23 #[.nestHost 32] #[] 1537 69 #[] #[])
  fields := #[]
  methods := #[]
  instanceTypes := #[]
  staticTypes := #[]
  resolved := Array.replicate 178 none
  statics := none }

def pool18 : Array CpInfo := pool [(1, .class_ 2), (0, u "java/util/TreeMap"), (0, .methodref 4 5), (0, .class_ 6), (0, .nameAndType 7 8), (0, u "java/lang/Object"), (0, u "<init>"), (0, u "()V"), (0, .fieldref 10 11), (0, .class_ 12), (0, .nameAndType 13 14), (0, u "java/util/TreeMap$Entry"), (0, u "color"), (0, u "Z"), (0, .fieldref 10 16), (0, .nameAndType 17 18), (0, u "key"), (0, u "Ljava/lang/Object;"), (0, .fieldref 10 20), (0, .nameAndType 21 18), (0, u "value"), (0, .fieldref 10 23), (0, .nameAndType 24 25), (0, u "parent"), (0, u "Ljava/util/TreeMap$Entry;"), (0, .class_ 27), (0, u "java/util/Map$Entry"), (34, u "left"), (1, u "right"), (0, u "(Ljava/lang/Object;Ljava/lang/Object;Ljava/util/TreeMap$Entry;)V")] 30

def k18c0 : Code := { maxStack := 2, maxLocals := 4, code := jdk_2736_method_1_code, exceptionTable := #[], attributes := #[] }
def k18m0 : Method := { name := "<init>", desc := "(Ljava/lang/Object;Ljava/lang/Object;Ljava/util/TreeMap$Entry;)V", sig := { parameters := [(.object "java/lang/Object"), (.object "java/lang/Object"), (.object "java/util/TreeMap$Entry")], returnType := none }, accessFlags := 0, code := some k18c0 }
/-- java/util/TreeMap$Entry -/
def k18 : Class := { plain "java/util/TreeMap$Entry" (some 0) with
  accessFlags := 48
  interfaces := #[17]
  cf := some (fileOf pool18 10 #[.nestHost 1] #[{ accessFlags := 0, nameIndex := 7, descriptorIndex := 65, attributes := #[] }] 48 4 #[26] #[{ accessFlags := 0, nameIndex := 17, descriptorIndex := 18, attributes := #[] }, { accessFlags := 0, nameIndex := 21, descriptorIndex := 18, attributes := #[] }, { accessFlags := 0, nameIndex := 62, descriptorIndex := 25, attributes := #[] }, { accessFlags := 0, nameIndex := 64, descriptorIndex := 25, attributes := #[] }, { accessFlags := 0, nameIndex := 24, descriptorIndex := 25, attributes := #[] }, { accessFlags := 0, nameIndex := 13, descriptorIndex := 14, attributes := #[] }])
  fields := #[{ name := "key", type := (.object "java/lang/Object"), accessFlags := 0, slot := 0, constantValue := 0 }, { name := "value", type := (.object "java/lang/Object"), accessFlags := 0, slot := 1, constantValue := 0 }, { name := "left", type := (.object "java/util/TreeMap$Entry"), accessFlags := 0, slot := 2, constantValue := 0 }, { name := "right", type := (.object "java/util/TreeMap$Entry"), accessFlags := 0, slot := 3, constantValue := 0 }, { name := "parent", type := (.object "java/util/TreeMap$Entry"), accessFlags := 0, slot := 4, constantValue := 0 }, { name := "color", type := .boolean, accessFlags := 0, slot := 5, constantValue := 0 }]
  methods := #[k18m0]
  instanceTypes := #[(.object "java/lang/Object"), (.object "java/lang/Object"), (.object "java/util/TreeMap$Entry"), (.object "java/util/TreeMap$Entry"), (.object "java/util/TreeMap$Entry"), .boolean]
  staticTypes := #[]
  resolved := Array.replicate 96 none
  statics := none }

def pool19 : Array CpInfo := pool [(2, .class_ 4), (1, u "java/lang/Object"), (0, u "<init>"), (0, u "()V"), (35, .class_ 44), (1, u "java/util/Objects"), (0, u "requireNonNull"), (0, u "(Ljava/lang/Object;)Ljava/lang/Object;")] 137

def k19m0 : Method := { name := "<init>", desc := "()V", sig := { parameters := [], returnType := none }, accessFlags := 2, code := none }
def k19c1 : Code := { maxStack := 2, maxLocals := 1, code := jdk_31_method_10_code, exceptionTable := #[], attributes := #[] }
def k19m1 : Method := { name := "requireNonNull", desc := "(Ljava/lang/Object;)Ljava/lang/Object;", sig := { parameters := [(.object "java/lang/Object")], returnType := some (.object "java/lang/Object") }, accessFlags := 9, code := some k19c1 }
/-- java/util/Objects -/
def k19 : Class := { plain "java/util/Objects" (some 0) with
  accessFlags := 49
  interfaces := #[]
  cf := some (fileOf pool19 42 #[] #[{ accessFlags := 2, nameIndex := 5, descriptorIndex := 6, attributes := #[] }, { accessFlags := 9, nameIndex := 45, descriptorIndex := 46, attributes := #[] }] 49 2 #[] #[])
  fields := #[]
  methods := #[k19m0, k19m1]
  instanceTypes := #[]
  staticTypes := #[]
  resolved := Array.replicate 184 none
  statics := none }

/-- the primitive byte -/
def k20 : Class := { plain "byte" none with kind := .primitive 'B', accessFlags := 0x411 }
/-- [B -/
def k21 : Class := { plain "[B" (some 0) with kind := .array 20 .byte, interfaces := #[15, 2], accessFlags := 1041 }

/-- the primitive int -/
def k22 : Class := { plain "int" none with kind := .primitive 'I', accessFlags := 0x411 }
/-- [I -/
def k23 : Class := { plain "[I" (some 0) with kind := .array 22 .int, interfaces := #[15, 2], accessFlags := 1041 }

/-- [Ljava/lang/Integer; -/
def k24 : Class := { plain "[Ljava/lang/Integer;" (some 0) with kind := .array 7 (.object "java/lang/Integer"), interfaces := #[15, 2], accessFlags := 1041 }

def heap : Heap := #[{ cls := 8, slots := #[.int 0, .int 127, .ref 1, .null, .int 0], vm := .statics 8 },
  { cls := 24, slots := #[.ref 2, .ref 3, .ref 4, .ref 5, .ref 6, .ref 7, .ref 8, .ref 9, .ref 10, .ref 11, .ref 12, .ref 13, .ref 14, .ref 15, .ref 16, .ref 17, .ref 18, .ref 19, .ref 20, .ref 21, .ref 22, .ref 23, .ref 24, .ref 25, .ref 26, .ref 27, .ref 28, .ref 29, .ref 30, .ref 31, .ref 32, .ref 33, .ref 34, .ref 35, .ref 36, .ref 37, .ref 38, .ref 39, .ref 40, .ref 41, .ref 42, .ref 43, .ref 44, .ref 45, .ref 46, .ref 47, .ref 48, .ref 49, .ref 50, .ref 51, .ref 52, .ref 53, .ref 54, .ref 55, .ref 56, .ref 57, .ref 58, .ref 59, .ref 60, .ref 61, .ref 62, .ref 63, .ref 64, .ref 65, .ref 66, .ref 67, .ref 68, .ref 69, .ref 70, .ref 71, .ref 72, .ref 73, .ref 74, .ref 75, .ref 76, .ref 77, .ref 78, .ref 79, .ref 80, .ref 81, .ref 82, .ref 83, .ref 84, .ref 85, .ref 86, .ref 87, .ref 88, .ref 89, .ref 90, .ref 91, .ref 92, .ref 93, .ref 94, .ref 95, .ref 96, .ref 97, .ref 98, .ref 99, .ref 100, .ref 101, .ref 102, .ref 103, .ref 104, .ref 105, .ref 106, .ref 107, .ref 108, .ref 109, .ref 110, .ref 111, .ref 112, .ref 113, .ref 114, .ref 115, .ref 116, .ref 117, .ref 118, .ref 119, .ref 120, .ref 121, .ref 122, .ref 123, .ref 124, .ref 125, .ref 126, .ref 127, .ref 128, .ref 129, .ref 130, .ref 131, .ref 132, .ref 133, .ref 134, .ref 135, .ref 136, .ref 137, .ref 138, .ref 139, .ref 140, .ref 141, .ref 142, .ref 143, .ref 144, .ref 145, .ref 146, .ref 147, .ref 148, .ref 149, .ref 150, .ref 151, .ref 152, .ref 153, .ref 154, .ref 155, .ref 156, .ref 157, .ref 158, .ref 159, .ref 160, .ref 161, .ref 162, .ref 163, .ref 164, .ref 165, .ref 166, .ref 167, .ref 168, .ref 169, .ref 170, .ref 171, .ref 172, .ref 173, .ref 174, .ref 175, .ref 176, .ref 177, .ref 178, .ref 179, .ref 180, .ref 181, .ref 182, .ref 183, .ref 184, .ref 185, .ref 186, .ref 187, .ref 188, .ref 189, .ref 190, .ref 191, .ref 192, .ref 193, .ref 194, .ref 195, .ref 196, .ref 197, .ref 198, .ref 199, .ref 200, .ref 201, .ref 202, .ref 203, .ref 204, .ref 205, .ref 206, .ref 207, .ref 208, .ref 209, .ref 210, .ref 211, .ref 212, .ref 213, .ref 214, .ref 215, .ref 216, .ref 217, .ref 218, .ref 219, .ref 220, .ref 221, .ref 222, .ref 223, .ref 224, .ref 225, .ref 226, .ref 227, .ref 228, .ref 229, .ref 230, .ref 231, .ref 232, .ref 233, .ref 234, .ref 235, .ref 236, .ref 237, .ref 238, .ref 239, .ref 240, .ref 241, .ref 242, .ref 243, .ref 244, .ref 245, .ref 246, .ref 247, .ref 248, .ref 249, .ref 250, .ref 251, .ref 252, .ref 253, .ref 254, .ref 255, .ref 256, .ref 257], vm := .none },
  { cls := 7, slots := #[.int (-128)], vm := .none },
  { cls := 7, slots := #[.int (-127)], vm := .none },
  { cls := 7, slots := #[.int (-126)], vm := .none },
  { cls := 7, slots := #[.int (-125)], vm := .none },
  { cls := 7, slots := #[.int (-124)], vm := .none },
  { cls := 7, slots := #[.int (-123)], vm := .none },
  { cls := 7, slots := #[.int (-122)], vm := .none },
  { cls := 7, slots := #[.int (-121)], vm := .none },
  { cls := 7, slots := #[.int (-120)], vm := .none },
  { cls := 7, slots := #[.int (-119)], vm := .none },
  { cls := 7, slots := #[.int (-118)], vm := .none },
  { cls := 7, slots := #[.int (-117)], vm := .none },
  { cls := 7, slots := #[.int (-116)], vm := .none },
  { cls := 7, slots := #[.int (-115)], vm := .none },
  { cls := 7, slots := #[.int (-114)], vm := .none },
  { cls := 7, slots := #[.int (-113)], vm := .none },
  { cls := 7, slots := #[.int (-112)], vm := .none },
  { cls := 7, slots := #[.int (-111)], vm := .none },
  { cls := 7, slots := #[.int (-110)], vm := .none },
  { cls := 7, slots := #[.int (-109)], vm := .none },
  { cls := 7, slots := #[.int (-108)], vm := .none },
  { cls := 7, slots := #[.int (-107)], vm := .none },
  { cls := 7, slots := #[.int (-106)], vm := .none },
  { cls := 7, slots := #[.int (-105)], vm := .none },
  { cls := 7, slots := #[.int (-104)], vm := .none },
  { cls := 7, slots := #[.int (-103)], vm := .none },
  { cls := 7, slots := #[.int (-102)], vm := .none },
  { cls := 7, slots := #[.int (-101)], vm := .none },
  { cls := 7, slots := #[.int (-100)], vm := .none },
  { cls := 7, slots := #[.int (-99)], vm := .none },
  { cls := 7, slots := #[.int (-98)], vm := .none },
  { cls := 7, slots := #[.int (-97)], vm := .none },
  { cls := 7, slots := #[.int (-96)], vm := .none },
  { cls := 7, slots := #[.int (-95)], vm := .none },
  { cls := 7, slots := #[.int (-94)], vm := .none },
  { cls := 7, slots := #[.int (-93)], vm := .none },
  { cls := 7, slots := #[.int (-92)], vm := .none },
  { cls := 7, slots := #[.int (-91)], vm := .none },
  { cls := 7, slots := #[.int (-90)], vm := .none },
  { cls := 7, slots := #[.int (-89)], vm := .none },
  { cls := 7, slots := #[.int (-88)], vm := .none },
  { cls := 7, slots := #[.int (-87)], vm := .none },
  { cls := 7, slots := #[.int (-86)], vm := .none },
  { cls := 7, slots := #[.int (-85)], vm := .none },
  { cls := 7, slots := #[.int (-84)], vm := .none },
  { cls := 7, slots := #[.int (-83)], vm := .none },
  { cls := 7, slots := #[.int (-82)], vm := .none },
  { cls := 7, slots := #[.int (-81)], vm := .none },
  { cls := 7, slots := #[.int (-80)], vm := .none },
  { cls := 7, slots := #[.int (-79)], vm := .none },
  { cls := 7, slots := #[.int (-78)], vm := .none },
  { cls := 7, slots := #[.int (-77)], vm := .none },
  { cls := 7, slots := #[.int (-76)], vm := .none },
  { cls := 7, slots := #[.int (-75)], vm := .none },
  { cls := 7, slots := #[.int (-74)], vm := .none },
  { cls := 7, slots := #[.int (-73)], vm := .none },
  { cls := 7, slots := #[.int (-72)], vm := .none },
  { cls := 7, slots := #[.int (-71)], vm := .none },
  { cls := 7, slots := #[.int (-70)], vm := .none },
  { cls := 7, slots := #[.int (-69)], vm := .none },
  { cls := 7, slots := #[.int (-68)], vm := .none },
  { cls := 7, slots := #[.int (-67)], vm := .none },
  { cls := 7, slots := #[.int (-66)], vm := .none },
  { cls := 7, slots := #[.int (-65)], vm := .none },
  { cls := 7, slots := #[.int (-64)], vm := .none },
  { cls := 7, slots := #[.int (-63)], vm := .none },
  { cls := 7, slots := #[.int (-62)], vm := .none },
  { cls := 7, slots := #[.int (-61)], vm := .none },
  { cls := 7, slots := #[.int (-60)], vm := .none },
  { cls := 7, slots := #[.int (-59)], vm := .none },
  { cls := 7, slots := #[.int (-58)], vm := .none },
  { cls := 7, slots := #[.int (-57)], vm := .none },
  { cls := 7, slots := #[.int (-56)], vm := .none },
  { cls := 7, slots := #[.int (-55)], vm := .none },
  { cls := 7, slots := #[.int (-54)], vm := .none },
  { cls := 7, slots := #[.int (-53)], vm := .none },
  { cls := 7, slots := #[.int (-52)], vm := .none },
  { cls := 7, slots := #[.int (-51)], vm := .none },
  { cls := 7, slots := #[.int (-50)], vm := .none },
  { cls := 7, slots := #[.int (-49)], vm := .none },
  { cls := 7, slots := #[.int (-48)], vm := .none },
  { cls := 7, slots := #[.int (-47)], vm := .none },
  { cls := 7, slots := #[.int (-46)], vm := .none },
  { cls := 7, slots := #[.int (-45)], vm := .none },
  { cls := 7, slots := #[.int (-44)], vm := .none },
  { cls := 7, slots := #[.int (-43)], vm := .none },
  { cls := 7, slots := #[.int (-42)], vm := .none },
  { cls := 7, slots := #[.int (-41)], vm := .none },
  { cls := 7, slots := #[.int (-40)], vm := .none },
  { cls := 7, slots := #[.int (-39)], vm := .none },
  { cls := 7, slots := #[.int (-38)], vm := .none },
  { cls := 7, slots := #[.int (-37)], vm := .none },
  { cls := 7, slots := #[.int (-36)], vm := .none },
  { cls := 7, slots := #[.int (-35)], vm := .none },
  { cls := 7, slots := #[.int (-34)], vm := .none },
  { cls := 7, slots := #[.int (-33)], vm := .none },
  { cls := 7, slots := #[.int (-32)], vm := .none },
  { cls := 7, slots := #[.int (-31)], vm := .none },
  { cls := 7, slots := #[.int (-30)], vm := .none },
  { cls := 7, slots := #[.int (-29)], vm := .none },
  { cls := 7, slots := #[.int (-28)], vm := .none },
  { cls := 7, slots := #[.int (-27)], vm := .none },
  { cls := 7, slots := #[.int (-26)], vm := .none },
  { cls := 7, slots := #[.int (-25)], vm := .none },
  { cls := 7, slots := #[.int (-24)], vm := .none },
  { cls := 7, slots := #[.int (-23)], vm := .none },
  { cls := 7, slots := #[.int (-22)], vm := .none },
  { cls := 7, slots := #[.int (-21)], vm := .none },
  { cls := 7, slots := #[.int (-20)], vm := .none },
  { cls := 7, slots := #[.int (-19)], vm := .none },
  { cls := 7, slots := #[.int (-18)], vm := .none },
  { cls := 7, slots := #[.int (-17)], vm := .none },
  { cls := 7, slots := #[.int (-16)], vm := .none },
  { cls := 7, slots := #[.int (-15)], vm := .none },
  { cls := 7, slots := #[.int (-14)], vm := .none },
  { cls := 7, slots := #[.int (-13)], vm := .none },
  { cls := 7, slots := #[.int (-12)], vm := .none },
  { cls := 7, slots := #[.int (-11)], vm := .none },
  { cls := 7, slots := #[.int (-10)], vm := .none },
  { cls := 7, slots := #[.int (-9)], vm := .none },
  { cls := 7, slots := #[.int (-8)], vm := .none },
  { cls := 7, slots := #[.int (-7)], vm := .none },
  { cls := 7, slots := #[.int (-6)], vm := .none },
  { cls := 7, slots := #[.int (-5)], vm := .none },
  { cls := 7, slots := #[.int (-4)], vm := .none },
  { cls := 7, slots := #[.int (-3)], vm := .none },
  { cls := 7, slots := #[.int (-2)], vm := .none },
  { cls := 7, slots := #[.int (-1)], vm := .none },
  { cls := 7, slots := #[.int (0)], vm := .none },
  { cls := 7, slots := #[.int (1)], vm := .none },
  { cls := 7, slots := #[.int (2)], vm := .none },
  { cls := 7, slots := #[.int (3)], vm := .none },
  { cls := 7, slots := #[.int (4)], vm := .none },
  { cls := 7, slots := #[.int (5)], vm := .none },
  { cls := 7, slots := #[.int (6)], vm := .none },
  { cls := 7, slots := #[.int (7)], vm := .none },
  { cls := 7, slots := #[.int (8)], vm := .none },
  { cls := 7, slots := #[.int (9)], vm := .none },
  { cls := 7, slots := #[.int (10)], vm := .none },
  { cls := 7, slots := #[.int (11)], vm := .none },
  { cls := 7, slots := #[.int (12)], vm := .none },
  { cls := 7, slots := #[.int (13)], vm := .none },
  { cls := 7, slots := #[.int (14)], vm := .none },
  { cls := 7, slots := #[.int (15)], vm := .none },
  { cls := 7, slots := #[.int (16)], vm := .none },
  { cls := 7, slots := #[.int (17)], vm := .none },
  { cls := 7, slots := #[.int (18)], vm := .none },
  { cls := 7, slots := #[.int (19)], vm := .none },
  { cls := 7, slots := #[.int (20)], vm := .none },
  { cls := 7, slots := #[.int (21)], vm := .none },
  { cls := 7, slots := #[.int (22)], vm := .none },
  { cls := 7, slots := #[.int (23)], vm := .none },
  { cls := 7, slots := #[.int (24)], vm := .none },
  { cls := 7, slots := #[.int (25)], vm := .none },
  { cls := 7, slots := #[.int (26)], vm := .none },
  { cls := 7, slots := #[.int (27)], vm := .none },
  { cls := 7, slots := #[.int (28)], vm := .none },
  { cls := 7, slots := #[.int (29)], vm := .none },
  { cls := 7, slots := #[.int (30)], vm := .none },
  { cls := 7, slots := #[.int (31)], vm := .none },
  { cls := 7, slots := #[.int (32)], vm := .none },
  { cls := 7, slots := #[.int (33)], vm := .none },
  { cls := 7, slots := #[.int (34)], vm := .none },
  { cls := 7, slots := #[.int (35)], vm := .none },
  { cls := 7, slots := #[.int (36)], vm := .none },
  { cls := 7, slots := #[.int (37)], vm := .none },
  { cls := 7, slots := #[.int (38)], vm := .none },
  { cls := 7, slots := #[.int (39)], vm := .none },
  { cls := 7, slots := #[.int (40)], vm := .none },
  { cls := 7, slots := #[.int (41)], vm := .none },
  { cls := 7, slots := #[.int (42)], vm := .none },
  { cls := 7, slots := #[.int (43)], vm := .none },
  { cls := 7, slots := #[.int (44)], vm := .none },
  { cls := 7, slots := #[.int (45)], vm := .none },
  { cls := 7, slots := #[.int (46)], vm := .none },
  { cls := 7, slots := #[.int (47)], vm := .none },
  { cls := 7, slots := #[.int (48)], vm := .none },
  { cls := 7, slots := #[.int (49)], vm := .none },
  { cls := 7, slots := #[.int (50)], vm := .none },
  { cls := 7, slots := #[.int (51)], vm := .none },
  { cls := 7, slots := #[.int (52)], vm := .none },
  { cls := 7, slots := #[.int (53)], vm := .none },
  { cls := 7, slots := #[.int (54)], vm := .none },
  { cls := 7, slots := #[.int (55)], vm := .none },
  { cls := 7, slots := #[.int (56)], vm := .none },
  { cls := 7, slots := #[.int (57)], vm := .none },
  { cls := 7, slots := #[.int (58)], vm := .none },
  { cls := 7, slots := #[.int (59)], vm := .none },
  { cls := 7, slots := #[.int (60)], vm := .none },
  { cls := 7, slots := #[.int (61)], vm := .none },
  { cls := 7, slots := #[.int (62)], vm := .none },
  { cls := 7, slots := #[.int (63)], vm := .none },
  { cls := 7, slots := #[.int (64)], vm := .none },
  { cls := 7, slots := #[.int (65)], vm := .none },
  { cls := 7, slots := #[.int (66)], vm := .none },
  { cls := 7, slots := #[.int (67)], vm := .none },
  { cls := 7, slots := #[.int (68)], vm := .none },
  { cls := 7, slots := #[.int (69)], vm := .none },
  { cls := 7, slots := #[.int (70)], vm := .none },
  { cls := 7, slots := #[.int (71)], vm := .none },
  { cls := 7, slots := #[.int (72)], vm := .none },
  { cls := 7, slots := #[.int (73)], vm := .none },
  { cls := 7, slots := #[.int (74)], vm := .none },
  { cls := 7, slots := #[.int (75)], vm := .none },
  { cls := 7, slots := #[.int (76)], vm := .none },
  { cls := 7, slots := #[.int (77)], vm := .none },
  { cls := 7, slots := #[.int (78)], vm := .none },
  { cls := 7, slots := #[.int (79)], vm := .none },
  { cls := 7, slots := #[.int (80)], vm := .none },
  { cls := 7, slots := #[.int (81)], vm := .none },
  { cls := 7, slots := #[.int (82)], vm := .none },
  { cls := 7, slots := #[.int (83)], vm := .none },
  { cls := 7, slots := #[.int (84)], vm := .none },
  { cls := 7, slots := #[.int (85)], vm := .none },
  { cls := 7, slots := #[.int (86)], vm := .none },
  { cls := 7, slots := #[.int (87)], vm := .none },
  { cls := 7, slots := #[.int (88)], vm := .none },
  { cls := 7, slots := #[.int (89)], vm := .none },
  { cls := 7, slots := #[.int (90)], vm := .none },
  { cls := 7, slots := #[.int (91)], vm := .none },
  { cls := 7, slots := #[.int (92)], vm := .none },
  { cls := 7, slots := #[.int (93)], vm := .none },
  { cls := 7, slots := #[.int (94)], vm := .none },
  { cls := 7, slots := #[.int (95)], vm := .none },
  { cls := 7, slots := #[.int (96)], vm := .none },
  { cls := 7, slots := #[.int (97)], vm := .none },
  { cls := 7, slots := #[.int (98)], vm := .none },
  { cls := 7, slots := #[.int (99)], vm := .none },
  { cls := 7, slots := #[.int (100)], vm := .none },
  { cls := 7, slots := #[.int (101)], vm := .none },
  { cls := 7, slots := #[.int (102)], vm := .none },
  { cls := 7, slots := #[.int (103)], vm := .none },
  { cls := 7, slots := #[.int (104)], vm := .none },
  { cls := 7, slots := #[.int (105)], vm := .none },
  { cls := 7, slots := #[.int (106)], vm := .none },
  { cls := 7, slots := #[.int (107)], vm := .none },
  { cls := 7, slots := #[.int (108)], vm := .none },
  { cls := 7, slots := #[.int (109)], vm := .none },
  { cls := 7, slots := #[.int (110)], vm := .none },
  { cls := 7, slots := #[.int (111)], vm := .none },
  { cls := 7, slots := #[.int (112)], vm := .none },
  { cls := 7, slots := #[.int (113)], vm := .none },
  { cls := 7, slots := #[.int (114)], vm := .none },
  { cls := 7, slots := #[.int (115)], vm := .none },
  { cls := 7, slots := #[.int (116)], vm := .none },
  { cls := 7, slots := #[.int (117)], vm := .none },
  { cls := 7, slots := #[.int (118)], vm := .none },
  { cls := 7, slots := #[.int (119)], vm := .none },
  { cls := 7, slots := #[.int (120)], vm := .none },
  { cls := 7, slots := #[.int (121)], vm := .none },
  { cls := 7, slots := #[.int (122)], vm := .none },
  { cls := 7, slots := #[.int (123)], vm := .none },
  { cls := 7, slots := #[.int (124)], vm := .none },
  { cls := 7, slots := #[.int (125)], vm := .none },
  { cls := 7, slots := #[.int (126)], vm := .none },
  { cls := 7, slots := #[.int (127)], vm := .none }]
def classes : Array Class := #[k0, k1, k2, k3, k4, k5, k6, k7, k8, k9, k10, k11, k12, k13, k14, k15, k16, k17, k18, k19, k20, k21, k22, k23, k24]
def interned : List (Array UInt16 × Addr) := []
def slotsUsed : Nat := 517
def theMethod : MethodId := ⟨1, 1⟩
def args0 : Array Value := #[.int 5, .int 7, .int 3, .int 1000, .int 2, .int 0]
def aboutOver (below : List Frame) : State where
  vm := { classes := classes, interned := interned.toArray }
  heap := heap
  slotsUsed := slotsUsed
  threads := #[{ frames := .invoking theMethod args0 :: below }]
def below0 : List Frame := [.native { method := ⟨0, 0⟩, args := #[] }]
def about1 : State := aboutOver below0
def p0 : Program := .bare "" "" ""
def e0 : Env := launch0.env 0 0 0
theorem w_frames : about1.frames = Frame.invoking theMethod args0 :: below0 := rfl
set_option maxRecDepth 65536 in
theorem w_args : argsFit about1.vm theMethod args0 = true := by decide +kernel
set_option maxRecDepth 65536 in
theorem w_heap : heapFits about1 = true := by decide +kernel
set_option maxRecDepth 65536 in
theorem w_runnable : about1.curStatus? = some .runnable := by decide +kernel
set_option maxRecDepth 65536 in
theorem w_alone : about1.alone = true := by decide +kernel
set_option maxRecDepth 65536 in
theorem w_named : about1.methodNamed? x = some theMethod := by decide +kernel
set_option maxRecDepth 65536 in
theorem w_hears : about1.hears theMethod below0 = true := by decide +kernel
set_option maxRecDepth 65536 in
theorem w_ripe : about1.ripe theMethod args0 below0 = true := by decide +kernel
theorem w_running : about1.status = .running := rfl
set_option maxRecDepth 65536 in
theorem w_room : about1.hasRoom e0.platform room_1 = true :=
  launch0.hasRoom_least _ room_1 (by decide +kernel) (by decide +kernel) (by decide +kernel) (by decide +kernel) (by decide +kernel) (by decide +kernel)
theorem allAtoms_all (ts : List Jvm.Cond) (a : Array Jvm.Value) (st : Jvm.State) : (allAtoms ts).before a st = ts.all (fun c => c.before a st) := by
  induction ts with
  | nil => rfl
  | cons c t ih =>
    show (Jvm.Cond.and c (allAtoms t)).before a st = _
    rw [Jvm.Cond.before_and, ih, List.all_cons]
def words1 : List Jvm.Cond := Jvm.Cond.code x code maxLocals ret :: tables_1
/-- a 'code' word, met by the world's own term for the bytes: nothing is compared byte by byte -/
theorem code_word {y : MethodName} {bytes : ByteArray} {mx : Nat} {rt : Option FieldType} {a : Array Value} {s : State} {m : MethodId} {meth : Method} {c : Code} (h1 : s.methodNamed? y = some m) (h2 : s.vm.method? m = some meth) (h3 : meth.code = some c) (h4 : c.code = bytes)
    (h5 : (c.maxLocals == mx && c.exceptionTable.isEmpty && decide (c.maxStack ≤ mostOperands) && decide (meth.sig.returnType = rt) && !meth.locks && decide (parseMethodDescriptor y.desc = some meth.sig)) = true) : (Jvm.Cond.code y bytes mx rt).before a s = true := by
  simp only [Bool.and_eq_true, beq_iff_eq, Bool.not_eq_true', decide_eq_true_eq] at h5
  obtain ⟨⟨⟨⟨⟨g1, g2⟩, g3⟩, g4⟩, g5⟩, g6⟩ := h5
  simp [Cond.before, Cond.holds, Cond.value, h1, h2, h3, h4, g1, g2, g3, g4, g5, g6]
def isCode : Jvm.Cond → Bool
  | .code _ _ _ _ => true
  | _ => false
theorem all_split {L : List Jvm.Cond} {P : Jvm.Cond → Bool} (h1 : L.all (fun c => isCode c || P c) = true) (h2 : ∀ c ∈ L.filter isCode, P c = true) : L.all P = true := by
  refine List.all_eq_true.mpr fun c hc => ?_
  have h := List.all_eq_true.mp h1 c hc
  rcases Bool.eq_false_or_eq_true (isCode c) with hi | hi
  · exact h2 c (List.mem_filter.mpr ⟨hc, hi⟩)
  · simpa [hi] using h
set_option maxRecDepth 65536 in
theorem w_c0 : (Jvm.Cond.code x code maxLocals ret).before args0 about1 = true := code_word (m := ⟨1, 1⟩) (meth := k1m1) (c := k1c1) (by decide +kernel) rfl rfl rfl (by decide +kernel)
set_option maxRecDepth 65536 in
theorem w_c1 : (Jvm.Cond.code ({ cls := "java/lang/Integer", name := "valueOf", desc := "(I)Ljava/lang/Integer;" } : Jvm.MethodName) jdk_33_method_22_code (1 : Nat) (Option.some (Jvm.ClassFile.FieldType.object "java/lang/Integer"))).before args0 about1 = true := code_word (m := ⟨7, 0⟩) (meth := k7m0) (c := k7c0) (by decide +kernel) rfl rfl rfl (by decide +kernel)
set_option maxRecDepth 65536 in
theorem w_c2 : (Jvm.Cond.code ({ cls := "com/example/hookwright/hookwright/ConstructorArgumentValues", name := "<init>", desc := "()V" } : Jvm.MethodName) prog_22_method_1_code (1 : Nat) (Option.none : Option Jvm.ClassFile.FieldType)).before args0 about1 = true := code_word (m := ⟨9, 0⟩) (meth := k9m0) (c := k9c0) (by decide +kernel) rfl rfl rfl (by decide +kernel)
set_option maxRecDepth 65536 in
theorem w_c3 : (Jvm.Cond.code ({ cls := "java/lang/Object", name := "<init>", desc := "()V" } : Jvm.MethodName) object_method_1_code (1 : Nat) (Option.none : Option Jvm.ClassFile.FieldType)).before args0 about1 = true := code_word (m := ⟨0, 0⟩) (meth := k0m0) (c := k0c0) (by decide +kernel) rfl rfl rfl (by decide +kernel)
set_option maxRecDepth 65536 in
theorem w_c4 : (Jvm.Cond.code ({ cls := "java/util/TreeMap", name := "<init>", desc := "()V" } : Jvm.MethodName) jdk_2729_method_1_code (1 : Nat) (Option.none : Option Jvm.ClassFile.FieldType)).before args0 about1 = true := code_word (m := ⟨16, 0⟩) (meth := k16m0) (c := k16c0) (by decide +kernel) rfl rfl rfl (by decide +kernel)
set_option maxRecDepth 65536 in
theorem w_c5 : (Jvm.Cond.code ({ cls := "java/util/AbstractMap", name := "<init>", desc := "()V" } : Jvm.MethodName) jdk_71_method_1_code (1 : Nat) (Option.none : Option Jvm.ClassFile.FieldType)).before args0 about1 = true := code_word (m := ⟨11, 0⟩) (meth := k11m0) (c := k11c0) (by decide +kernel) rfl rfl rfl (by decide +kernel)
set_option maxRecDepth 65536 in
theorem w_c6 : (Jvm.Cond.code ({ cls := "com/example/hookwright/hookwright/ConstructorArgumentValues", name := "addIndexedArgumentValue", desc := "(ILjava/lang/Object;)V" } : Jvm.MethodName) prog_22_method_2_code (3 : Nat) (Option.none : Option Jvm.ClassFile.FieldType)).before args0 about1 = true := code_word (m := ⟨9, 1⟩) (meth := k9m1) (c := k9c1) (by decide +kernel) rfl rfl rfl (by decide +kernel)
set_option maxRecDepth 65536 in
theorem w_c7 : (Jvm.Cond.code ({ cls := "java/util/TreeMap", name := "put", desc := "(Ljava/lang/Object;Ljava/lang/Object;)Ljava/lang/Object;" } : Jvm.MethodName) jdk_2729_method_21_code (3 : Nat) (Option.some (Jvm.ClassFile.FieldType.object "java/lang/Object"))).before args0 about1 = true := code_word (m := ⟨16, 5⟩) (meth := k16m5) (c := k16c5) (by decide +kernel) rfl rfl rfl (by decide +kernel)
set_option maxRecDepth 65536 in
theorem w_c8 : (Jvm.Cond.code ({ cls := "java/util/TreeMap", name := "put", desc := "(Ljava/lang/Object;Ljava/lang/Object;Z)Ljava/lang/Object;" } : Jvm.MethodName) jdk_2729_method_31_code (10 : Nat) (Option.some (Jvm.ClassFile.FieldType.object "java/lang/Object"))).before args0 about1 = true := code_word (m := ⟨16, 8⟩) (meth := k16m8) (c := k16c8) (by decide +kernel) rfl rfl rfl (by decide +kernel)
set_option maxRecDepth 65536 in
theorem w_c9 : (Jvm.Cond.code ({ cls := "java/util/TreeMap", name := "addEntryToEmptyMap", desc := "(Ljava/lang/Object;Ljava/lang/Object;)V" } : Jvm.MethodName) jdk_2729_method_30_code (3 : Nat) (Option.none : Option Jvm.ClassFile.FieldType)).before args0 about1 = true := code_word (m := ⟨16, 7⟩) (meth := k16m7) (c := k16c7) (by decide +kernel) rfl rfl rfl (by decide +kernel)
set_option maxRecDepth 65536 in
theorem w_c10 : (Jvm.Cond.code ({ cls := "java/util/TreeMap", name := "compare", desc := "(Ljava/lang/Object;Ljava/lang/Object;)I" } : Jvm.MethodName) jdk_2729_method_67_code (3 : Nat) (Option.some Jvm.ClassFile.FieldType.int)).before args0 about1 = true := code_word (m := ⟨16, 9⟩) (meth := k16m9) (c := k16c9) (by decide +kernel) rfl rfl rfl (by decide +kernel)
set_option maxRecDepth 65536 in
theorem w_c11 : (Jvm.Cond.code ({ cls := "java/lang/Integer", name := "compareTo", desc := "(Ljava/lang/Object;)I" } : Jvm.MethodName) jdk_33_method_63_code (2 : Nat) (Option.some Jvm.ClassFile.FieldType.int)).before args0 about1 = true := code_word (m := ⟨7, 4⟩) (meth := k7m4) (c := k7c4) (by decide +kernel) rfl rfl rfl (by decide +kernel)
set_option maxRecDepth 65536 in
theorem w_c12 : (Jvm.Cond.code ({ cls := "java/lang/Integer", name := "compareTo", desc := "(Ljava/lang/Integer;)I" } : Jvm.MethodName) jdk_33_method_39_code (2 : Nat) (Option.some Jvm.ClassFile.FieldType.int)).before args0 about1 = true := code_word (m := ⟨7, 2⟩) (meth := k7m2) (c := k7c2) (by decide +kernel) rfl rfl rfl (by decide +kernel)
set_option maxRecDepth 65536 in
theorem w_c13 : (Jvm.Cond.code ({ cls := "java/lang/Integer", name := "compare", desc := "(II)I" } : Jvm.MethodName) jdk_33_method_40_code (2 : Nat) (Option.some Jvm.ClassFile.FieldType.int)).before args0 about1 = true := code_word (m := ⟨7, 3⟩) (meth := k7m3) (c := k7c3) (by decide +kernel) rfl rfl rfl (by decide +kernel)
set_option maxRecDepth 65536 in
theorem w_c14 : (Jvm.Cond.code ({ cls := "java/util/TreeMap$Entry", name := "<init>", desc := "(Ljava/lang/Object;Ljava/lang/Object;Ljava/util/TreeMap$Entry;)V" } : Jvm.MethodName) jdk_2736_method_1_code (4 : Nat) (Option.none : Option Jvm.ClassFile.FieldType)).before args0 about1 = true := code_word (m := ⟨18, 0⟩) (meth := k18m0) (c := k18c0) (by decide +kernel) rfl rfl rfl (by decide +kernel)
set_option maxRecDepth 65536 in
theorem w_c15 : (Jvm.Cond.code ({ cls := "java/util/Objects", name := "requireNonNull", desc := "(Ljava/lang/Object;)Ljava/lang/Object;" } : Jvm.MethodName) jdk_31_method_10_code (1 : Nat) (Option.some (Jvm.ClassFile.FieldType.object "java/lang/Object"))).before args0 about1 = true := code_word (m := ⟨19, 1⟩) (meth := k19m1) (c := k19c1) (by decide +kernel) rfl rfl rfl (by decide +kernel)
set_option maxRecDepth 65536 in
theorem w_c16 : (Jvm.Cond.code ({ cls := "com/example/hookwright/hookwright/ConstructorArgumentValues", name := "getArgumentCount", desc := "()I" } : Jvm.MethodName) prog_22_method_5_code (1 : Nat) (Option.some Jvm.ClassFile.FieldType.int)).before args0 about1 = true := code_word (m := ⟨9, 4⟩) (meth := k9m4) (c := k9c4) (by decide +kernel) rfl rfl rfl (by decide +kernel)
set_option maxRecDepth 65536 in
theorem w_c17 : (Jvm.Cond.code ({ cls := "java/util/TreeMap", name := "size", desc := "()I" } : Jvm.MethodName) jdk_2729_method_5_code (1 : Nat) (Option.some Jvm.ClassFile.FieldType.int)).before args0 about1 = true := code_word (m := ⟨16, 1⟩) (meth := k16m1) (c := k16c1) (by decide +kernel) rfl rfl rfl (by decide +kernel)
set_option maxRecDepth 65536 in
theorem w_c18 : (Jvm.Cond.code ({ cls := "com/example/hookwright/hookwright/ConstructorArgumentValues", name := "isEmpty", desc := "()Z" } : Jvm.MethodName) prog_22_method_6_code (1 : Nat) (Option.some Jvm.ClassFile.FieldType.boolean)).before args0 about1 = true := code_word (m := ⟨9, 5⟩) (meth := k9m5) (c := k9c5) (by decide +kernel) rfl rfl rfl (by decide +kernel)
set_option maxRecDepth 65536 in
theorem w_c19 : (Jvm.Cond.code ({ cls := "java/util/AbstractMap", name := "isEmpty", desc := "()Z" } : Jvm.MethodName) jdk_71_method_3_code (1 : Nat) (Option.some Jvm.ClassFile.FieldType.boolean)).before args0 about1 = true := code_word (m := ⟨11, 2⟩) (meth := k11m2) (c := k11c2) (by decide +kernel) rfl rfl rfl (by decide +kernel)
set_option maxRecDepth 65536 in
theorem w_c20 : (Jvm.Cond.code ({ cls := "com/example/hookwright/hookwright/ConstructorArgumentValues", name := "getIndexedArgumentValue", desc := "(I)Ljava/lang/Object;" } : Jvm.MethodName) prog_22_method_4_code (2 : Nat) (Option.some (Jvm.ClassFile.FieldType.object "java/lang/Object"))).before args0 about1 = true := code_word (m := ⟨9, 3⟩) (meth := k9m3) (c := k9c3) (by decide +kernel) rfl rfl rfl (by decide +kernel)
set_option maxRecDepth 65536 in
theorem w_c21 : (Jvm.Cond.code ({ cls := "java/util/TreeMap", name := "get", desc := "(Ljava/lang/Object;)Ljava/lang/Object;" } : Jvm.MethodName) jdk_2729_method_8_code (3 : Nat) (Option.some (Jvm.ClassFile.FieldType.object "java/lang/Object"))).before args0 about1 = true := code_word (m := ⟨16, 3⟩) (meth := k16m3) (c := k16c3) (by decide +kernel) rfl rfl rfl (by decide +kernel)
set_option maxRecDepth 65536 in
theorem w_c22 : (Jvm.Cond.code ({ cls := "java/util/TreeMap", name := "getEntry", desc := "(Ljava/lang/Object;)Ljava/util/TreeMap$Entry;" } : Jvm.MethodName) jdk_2729_method_15_code (5 : Nat) (Option.some (Jvm.ClassFile.FieldType.object "java/util/TreeMap$Entry"))).before args0 about1 = true := code_word (m := ⟨16, 4⟩) (meth := k16m4) (c := k16c4) (by decide +kernel) rfl rfl rfl (by decide +kernel)
set_option maxRecDepth 65536 in
theorem w_c23 : (Jvm.Cond.code ({ cls := "com/example/hookwright/hookwright/ConstructorArgumentValues", name := "hasIndexedArgumentValue", desc := "(I)Z" } : Jvm.MethodName) prog_22_method_3_code (2 : Nat) (Option.some Jvm.ClassFile.FieldType.boolean)).before args0 about1 = true := code_word (m := ⟨9, 2⟩) (meth := k9m2) (c := k9c2) (by decide +kernel) rfl rfl rfl (by decide +kernel)
set_option maxRecDepth 65536 in
theorem w_c24 : (Jvm.Cond.code ({ cls := "java/util/TreeMap", name := "containsKey", desc := "(Ljava/lang/Object;)Z" } : Jvm.MethodName) jdk_2729_method_6_code (2 : Nat) (Option.some Jvm.ClassFile.FieldType.boolean)).before args0 about1 = true := code_word (m := ⟨16, 2⟩) (meth := k16m2) (c := k16c2) (by decide +kernel) rfl rfl rfl (by decide +kernel)
set_option maxRecDepth 65536 in
theorem w_c25 : (Jvm.Cond.code ({ cls := "java/util/TreeMap", name := "addEntry", desc := "(Ljava/lang/Object;Ljava/lang/Object;Ljava/util/TreeMap$Entry;Z)V" } : Jvm.MethodName) jdk_2729_method_29_code (6 : Nat) (Option.none : Option Jvm.ClassFile.FieldType)).before args0 about1 = true := code_word (m := ⟨16, 6⟩) (meth := k16m6) (c := k16c6) (by decide +kernel) rfl rfl rfl (by decide +kernel)
set_option maxRecDepth 65536 in
theorem w_c26 : (Jvm.Cond.code ({ cls := "java/util/TreeMap", name := "fixAfterInsertion", desc := "(Ljava/util/TreeMap$Entry;)V" } : Jvm.MethodName) jdk_2729_method_83_code (3 : Nat) (Option.none : Option Jvm.ClassFile.FieldType)).before args0 about1 = true := code_word (m := ⟨16, 10⟩) (meth := k16m10) (c := k16c10) (by decide +kernel) rfl rfl rfl (by decide +kernel)
set_option maxRecDepth 65536 in
theorem w_c27 : (Jvm.Cond.code ({ cls := "java/lang/Integer", name := "<init>", desc := "(I)V" } : Jvm.MethodName) jdk_33_method_23_code (2 : Nat) (Option.none : Option Jvm.ClassFile.FieldType)).before args0 about1 = true := code_word (m := ⟨7, 1⟩) (meth := k7m1) (c := k7c1) (by decide +kernel) rfl rfl rfl (by decide +kernel)
set_option maxRecDepth 65536 in
theorem w_c28 : (Jvm.Cond.code ({ cls := "java/lang/Number", name := "<init>", desc := "()V" } : Jvm.MethodName) jdk_18_method_1_code (1 : Nat) (Option.none : Option Jvm.ClassFile.FieldType)).before args0 about1 = true := code_word (m := ⟨3, 0⟩) (meth := k3m0) (c := k3c0) (by decide +kernel) rfl rfl rfl (by decide +kernel)
def codes1 : List Jvm.Cond := [Jvm.Cond.code x code maxLocals ret, Jvm.Cond.code ({ cls := "java/lang/Integer", name := "valueOf", desc := "(I)Ljava/lang/Integer;" } : Jvm.MethodName) jdk_33_method_22_code (1 : Nat) (Option.some (Jvm.ClassFile.FieldType.object "java/lang/Integer")), Jvm.Cond.code ({ cls := "com/example/hookwright/hookwright/ConstructorArgumentValues", name := "<init>", desc := "()V" } : Jvm.MethodName) prog_22_method_1_code (1 : Nat) (Option.none : Option Jvm.ClassFile.FieldType), Jvm.Cond.code ({ cls := "java/lang/Object", name := "<init>", desc := "()V" } : Jvm.MethodName) object_method_1_code (1 : Nat) (Option.none : Option Jvm.ClassFile.FieldType), Jvm.Cond.code ({ cls := "java/util/TreeMap", name := "<init>", desc := "()V" } : Jvm.MethodName) jdk_2729_method_1_code (1 : Nat) (Option.none : Option Jvm.ClassFile.FieldType), Jvm.Cond.code ({ cls := "java/util/AbstractMap", name := "<init>", desc := "()V" } : Jvm.MethodName) jdk_71_method_1_code (1 : Nat) (Option.none : Option Jvm.ClassFile.FieldType), Jvm.Cond.code ({ cls := "com/example/hookwright/hookwright/ConstructorArgumentValues", name := "addIndexedArgumentValue", desc := "(ILjava/lang/Object;)V" } : Jvm.MethodName) prog_22_method_2_code (3 : Nat) (Option.none : Option Jvm.ClassFile.FieldType), Jvm.Cond.code ({ cls := "java/util/TreeMap", name := "put", desc := "(Ljava/lang/Object;Ljava/lang/Object;)Ljava/lang/Object;" } : Jvm.MethodName) jdk_2729_method_21_code (3 : Nat) (Option.some (Jvm.ClassFile.FieldType.object "java/lang/Object")), Jvm.Cond.code ({ cls := "java/util/TreeMap", name := "put", desc := "(Ljava/lang/Object;Ljava/lang/Object;Z)Ljava/lang/Object;" } : Jvm.MethodName) jdk_2729_method_31_code (10 : Nat) (Option.some (Jvm.ClassFile.FieldType.object "java/lang/Object")), Jvm.Cond.code ({ cls := "java/util/TreeMap", name := "addEntryToEmptyMap", desc := "(Ljava/lang/Object;Ljava/lang/Object;)V" } : Jvm.MethodName) jdk_2729_method_30_code (3 : Nat) (Option.none : Option Jvm.ClassFile.FieldType), Jvm.Cond.code ({ cls := "java/util/TreeMap", name := "compare", desc := "(Ljava/lang/Object;Ljava/lang/Object;)I" } : Jvm.MethodName) jdk_2729_method_67_code (3 : Nat) (Option.some Jvm.ClassFile.FieldType.int), Jvm.Cond.code ({ cls := "java/lang/Integer", name := "compareTo", desc := "(Ljava/lang/Object;)I" } : Jvm.MethodName) jdk_33_method_63_code (2 : Nat) (Option.some Jvm.ClassFile.FieldType.int), Jvm.Cond.code ({ cls := "java/lang/Integer", name := "compareTo", desc := "(Ljava/lang/Integer;)I" } : Jvm.MethodName) jdk_33_method_39_code (2 : Nat) (Option.some Jvm.ClassFile.FieldType.int), Jvm.Cond.code ({ cls := "java/lang/Integer", name := "compare", desc := "(II)I" } : Jvm.MethodName) jdk_33_method_40_code (2 : Nat) (Option.some Jvm.ClassFile.FieldType.int), Jvm.Cond.code ({ cls := "java/util/TreeMap$Entry", name := "<init>", desc := "(Ljava/lang/Object;Ljava/lang/Object;Ljava/util/TreeMap$Entry;)V" } : Jvm.MethodName) jdk_2736_method_1_code (4 : Nat) (Option.none : Option Jvm.ClassFile.FieldType), Jvm.Cond.code ({ cls := "java/util/Objects", name := "requireNonNull", desc := "(Ljava/lang/Object;)Ljava/lang/Object;" } : Jvm.MethodName) jdk_31_method_10_code (1 : Nat) (Option.some (Jvm.ClassFile.FieldType.object "java/lang/Object")), Jvm.Cond.code ({ cls := "com/example/hookwright/hookwright/ConstructorArgumentValues", name := "getArgumentCount", desc := "()I" } : Jvm.MethodName) prog_22_method_5_code (1 : Nat) (Option.some Jvm.ClassFile.FieldType.int), Jvm.Cond.code ({ cls := "java/util/TreeMap", name := "size", desc := "()I" } : Jvm.MethodName) jdk_2729_method_5_code (1 : Nat) (Option.some Jvm.ClassFile.FieldType.int), Jvm.Cond.code ({ cls := "com/example/hookwright/hookwright/ConstructorArgumentValues", name := "isEmpty", desc := "()Z" } : Jvm.MethodName) prog_22_method_6_code (1 : Nat) (Option.some Jvm.ClassFile.FieldType.boolean), Jvm.Cond.code ({ cls := "java/util/AbstractMap", name := "isEmpty", desc := "()Z" } : Jvm.MethodName) jdk_71_method_3_code (1 : Nat) (Option.some Jvm.ClassFile.FieldType.boolean), Jvm.Cond.code ({ cls := "com/example/hookwright/hookwright/ConstructorArgumentValues", name := "getIndexedArgumentValue", desc := "(I)Ljava/lang/Object;" } : Jvm.MethodName) prog_22_method_4_code (2 : Nat) (Option.some (Jvm.ClassFile.FieldType.object "java/lang/Object")), Jvm.Cond.code ({ cls := "java/util/TreeMap", name := "get", desc := "(Ljava/lang/Object;)Ljava/lang/Object;" } : Jvm.MethodName) jdk_2729_method_8_code (3 : Nat) (Option.some (Jvm.ClassFile.FieldType.object "java/lang/Object")), Jvm.Cond.code ({ cls := "java/util/TreeMap", name := "getEntry", desc := "(Ljava/lang/Object;)Ljava/util/TreeMap$Entry;" } : Jvm.MethodName) jdk_2729_method_15_code (5 : Nat) (Option.some (Jvm.ClassFile.FieldType.object "java/util/TreeMap$Entry")), Jvm.Cond.code ({ cls := "com/example/hookwright/hookwright/ConstructorArgumentValues", name := "hasIndexedArgumentValue", desc := "(I)Z" } : Jvm.MethodName) prog_22_method_3_code (2 : Nat) (Option.some Jvm.ClassFile.FieldType.boolean), Jvm.Cond.code ({ cls := "java/util/TreeMap", name := "containsKey", desc := "(Ljava/lang/Object;)Z" } : Jvm.MethodName) jdk_2729_method_6_code (2 : Nat) (Option.some Jvm.ClassFile.FieldType.boolean), Jvm.Cond.code ({ cls := "java/util/TreeMap", name := "addEntry", desc := "(Ljava/lang/Object;Ljava/lang/Object;Ljava/util/TreeMap$Entry;Z)V" } : Jvm.MethodName) jdk_2729_method_29_code (6 : Nat) (Option.none : Option Jvm.ClassFile.FieldType), Jvm.Cond.code ({ cls := "java/util/TreeMap", name := "fixAfterInsertion", desc := "(Ljava/util/TreeMap$Entry;)V" } : Jvm.MethodName) jdk_2729_method_83_code (3 : Nat) (Option.none : Option Jvm.ClassFile.FieldType), Jvm.Cond.code ({ cls := "java/lang/Integer", name := "<init>", desc := "(I)V" } : Jvm.MethodName) jdk_33_method_23_code (2 : Nat) (Option.none : Option Jvm.ClassFile.FieldType), Jvm.Cond.code ({ cls := "java/lang/Number", name := "<init>", desc := "()V" } : Jvm.MethodName) jdk_18_method_1_code (1 : Nat) (Option.none : Option Jvm.ClassFile.FieldType)]
set_option maxRecDepth 65536 in
theorem codes_eq : words1.filter isCode = codes1 := rfl
theorem w_codes : ∀ c ∈ words1.filter isCode, c.before args0 about1 = true := by
  rw [codes_eq]
  intro c hc
  simp only [codes1, List.mem_cons, List.not_mem_nil, or_false] at hc
  rcases hc with rfl | rfl | rfl | rfl | rfl | rfl | rfl | rfl | rfl | rfl | rfl | rfl | rfl | rfl | rfl | rfl | rfl | rfl | rfl | rfl | rfl | rfl | rfl | rfl | rfl | rfl | rfl | rfl | rfl
  · exact w_c0
  · exact w_c1
  · exact w_c2
  · exact w_c3
  · exact w_c4
  · exact w_c5
  · exact w_c6
  · exact w_c7
  · exact w_c8
  · exact w_c9
  · exact w_c10
  · exact w_c11
  · exact w_c12
  · exact w_c13
  · exact w_c14
  · exact w_c15
  · exact w_c16
  · exact w_c17
  · exact w_c18
  · exact w_c19
  · exact w_c20
  · exact w_c21
  · exact w_c22
  · exact w_c23
  · exact w_c24
  · exact w_c25
  · exact w_c26
  · exact w_c27
  · exact w_c28
set_option maxRecDepth 65536 in
theorem w_t1 : (words1.take 24).all (fun c => isCode c || c.before args0 about1) = true := by decide +kernel
set_option maxRecDepth 65536 in
theorem w_t2 : ((words1.drop 24).take 24).all (fun c => isCode c || c.before args0 about1) = true := by decide +kernel
set_option maxRecDepth 65536 in
theorem w_t3 : (((words1.drop 24).drop 24).take 24).all (fun c => isCode c || c.before args0 about1) = true := by decide +kernel
set_option maxRecDepth 65536 in
theorem w_t4 : ((((words1.drop 24).drop 24).drop 24).take 24).all (fun c => isCode c || c.before args0 about1) = true := by decide +kernel
set_option maxRecDepth 65536 in
theorem w_t5 : (((((words1.drop 24).drop 24).drop 24).drop 24).take 24).all (fun c => isCode c || c.before args0 about1) = true := by decide +kernel
set_option maxRecDepth 65536 in
theorem w_t6 : ((((((words1.drop 24).drop 24).drop 24).drop 24).drop 24).take 24).all (fun c => isCode c || c.before args0 about1) = true := by decide +kernel
set_option maxRecDepth 65536 in
theorem w_t7 : (((((((words1.drop 24).drop 24).drop 24).drop 24).drop 24).drop 24).take 24).all (fun c => isCode c || c.before args0 about1) = true := by decide +kernel
set_option maxRecDepth 65536 in
theorem w_t8 : ((((((((words1.drop 24).drop 24).drop 24).drop 24).drop 24).drop 24).drop 24).take 24).all (fun c => isCode c || c.before args0 about1) = true := by decide +kernel
set_option maxRecDepth 65536 in
theorem w_t9 : ((((((((words1.drop 24).drop 24).drop 24).drop 24).drop 24).drop 24).drop 24).drop 24).all (fun c => isCode c || c.before args0 about1) = true := by decide +kernel
theorem w_tables : (allAtoms (Jvm.Cond.code x code maxLocals ret :: tables_1)).before args0 about1 = true := by
  rw [allAtoms_all]
  show words1.all (fun c => c.before args0 about1) = true
  refine all_split ?_ w_codes
  rw [← List.take_append_drop 24 words1, List.all_append, w_t1, ← List.take_append_drop 24 (words1.drop 24), List.all_append, w_t2, ← List.take_append_drop 24 ((words1.drop 24).drop 24), List.all_append, w_t3, ← List.take_append_drop 24 (((words1.drop 24).drop 24).drop 24), List.all_append, w_t4, ← List.take_append_drop 24 ((((words1.drop 24).drop 24).drop 24).drop 24), List.all_append, w_t5, ← List.take_append_drop 24 (((((words1.drop 24).drop 24).drop 24).drop 24).drop 24), List.all_append, w_t6, ← List.take_append_drop 24 ((((((words1.drop 24).drop 24).drop 24).drop 24).drop 24).drop 24), List.all_append, w_t7, ← List.take_append_drop 24 (((((((words1.drop 24).drop 24).drop 24).drop 24).drop 24).drop 24).drop 24), List.all_append, w_t8, w_t9]
  rfl
set_option maxRecDepth 65536 in
theorem w_rest : rest_1_c.before args0 about1 = true := by decide +kernel
set_option maxRecDepth 65536 in
theorem w_case : (Jvm.Cond.and given_1 narrow_1).before args0 about1 = true := by decide +kernel
theorem w_applies : (headSpec (Jvm.Cond.code x code maxLocals ret :: tables_1) room_1).applies x e0.platform about1 = true :=
  (Spec.applies_iff w_frames).mpr ⟨w_running, w_runnable, w_alone, w_named, w_hears, w_ripe, w_room, w_tables⟩
theorem atStart : AtStart classFile x code maxLocals ret World_1 tables_1 room_1 Calls_1 rest_1 Pre_1 launch0 p0 e0 about1 theMethod args0 below0 :=
  ⟨lists_1, trivial, launch0.admits_env _ _ _, launch0.least_env, fairChoices_fair.cas, fairChoices_fair.clock, w_frames, w_args, w_heap, w_applies, trivial, w_rest, w_case⟩
end start1
theorem witness_1 : WitnessClaimed_1 := ⟨start1.p0, start1.e0, start1.about1, start1.theMethod, start1.args0, start1.below0, start1.atStart⟩
end Jvm.Pilot.@@N@@
