import JvmDerived
import JvmDerived.Pilot.@@N@@Statement
import JvmDerived.Pilot.@@N@@Code
set_option linter.unusedVariables false
set_option linter.unusedSimpArgs false
namespace Jvm.RoadKit
open Sem ClassFile Op Lib Jvm.Stand Jvm.Free Jvm.LawKit
section New
variable {p : Program} {l : Launch} {e : Env} {R : Room} {s : State} {m : MethodId} {args : Array Value} {below : List Frame} {meth : Method} {c : Code} {T : State} {locs : List Loc} {cells slots : Nat}
theorem retI (X : Stand p l e R s m args below meth c T locs cells slots) (hx : p.tables.exec = Jvm.exec) {pc : Nat} {Ls : Array Slot} {z : Int32} {rest : List Value} (hret : meth.sig.returnType = some .int) (hd : decode c.code pc = .ok (.ireturn, 1)) {fs : List Frame}
    (hl : ∀ (f : JFrame) (acts : List Action), f.method = m → f.locked = none → f.entered = [] → (doReturn e (T.setTop f) acts (some (.int z))).1 = T.setFrames fs) : Steps p.tables e below (T.setTop (mkF m pc Ls (.int z :: rest))) (T.setFrames fs) := by
  have hm' : T.vm.method? m = some meth := X.method'
  have hn : narrow .int (.int z) = .int z := rfl
  show Steps p.tables e below (T.setTop { method := m, pc := pc, locals := Ls, stack := _ :: rest, locked := none }) _
  jvm_step X.here [X.here.top, hx, hd, hm', hret, hn]
  first | (intro acts; rw [hl _ acts rfl rfl rfl]) | rw [hl _ _ rfl rfl rfl]
  exact Steps.refl _
end New
end Jvm.RoadKit
namespace Jvm.Pilot.@@N@@
open Jvm Jvm.ClassFile Sem Op Lib Jvm.Free Jvm.Stand Jvm.LawKit Jvm.RoadKit Bundle Jvm.Pilot.@@N@@.Jvm.D
section Own
variable {p : Program} {l : Launch} {e : Env} {R : Room} {s : State} {m : MethodId} {args : Array Value} {below : List Frame} {meth : Method} {c : Code} {T : State} {locs : List Loc} {cells slots : Nat} {Z : State} {a0 : Array Value} {h h' : Heap} {n0 : Nat} {Q : Option Value → Heap → Prop} {kc ks : Nat} {Ls : Array Slot} {St : List Value} {pc : Nat} {own nm : String} {bytes : ByteArray} {maxL : Nat} {ret : Option FieldType}
/-- the rest of a run: from S the method ends by returning; Q says what it returns and leaves; nothing below n0 is written -/
def OGo (p : Program) (e : Env) (below : List Frame) (s : State) (n0 : Nat) (Q : Option Value → Heap → Prop) (kc ks : Nat) (S : State) : Prop :=
  ∃ U o, Steps p.tables e below S U ∧ U.status = .running ∧ Ended U below o ∧ ∃ v L, o = .returned v ∧ (Q v U.heap ∧ Fr n0 L) ∧ FrameEnd s o U L kc ks
theorem OGo.st {A B : State} (k : ∀ t, Steps p.tables e below A t → Steps p.tables e below B t) (g : OGo p e below s n0 Q kc ks A) : OGo p e below s n0 Q kc ks B := by
  obtain ⟨U, o, h1, r⟩ := g
  exact ⟨U, o, k U h1, r⟩
theorem OGo.imp {A : State} {Q' : Option Value → Heap → Prop} (k : ∀ v h, Q' v h → Q v h) (g : OGo p e below s n0 Q' kc ks A) : OGo p e below s n0 Q kc ks A := by
  obtain ⟨U, o, h1, h2, h3, v, L, h4, ⟨h5, h6⟩, h7⟩ := g
  exact ⟨U, o, h1, h2, h3, v, L, h4, ⟨k _ _ h5, h6⟩, h7⟩
/-- what a walk knows of the method in which it stands -/
def OCx (p : Program) (s : State) (m : MethodId) (meth : Method) (c : Code) (Z : State) (own nm : String) (bytes : ByteArray) (maxL : Nat) (ret : Option FieldType) : Prop :=
  p.tables.exec = Jvm.exec ∧ Z.Warmed39 s.vm ∧ c.code = bytes ∧ c.maxLocals = maxL ∧ s.vm.findClass own = some m.cls ∧ meth.name = nm ∧ meth.sig.returnType = ret ∧ meth.locks = false
theorem OCx.hx (K : OCx p s m meth c Z own nm bytes maxL ret) : p.tables.exec = Jvm.exec := K.1
theorem OCx.hZ (K : OCx p s m meth c Z own nm bytes maxL ret) : Z.Warmed39 s.vm := K.2.1
theorem OCx.hby (K : OCx p s m meth c Z own nm bytes maxL ret) : c.code = bytes := K.2.2.1
theorem OCx.hml (K : OCx p s m meth c Z own nm bytes maxL ret) : c.maxLocals = maxL := K.2.2.2.1
theorem OCx.hown (K : OCx p s m meth c Z own nm bytes maxL ret) : s.vm.findClass own = some m.cls := K.2.2.2.2.1
theorem OCx.hnm (K : OCx p s m meth c Z own nm bytes maxL ret) : meth.name = nm := K.2.2.2.2.2.1
theorem OCx.hret (K : OCx p s m meth c Z own nm bytes maxL ret) : meth.sig.returnType = ret := K.2.2.2.2.2.2.1
theorem OCx.hlk (K : OCx p s m meth c Z own nm bytes maxL ret) : meth.locks = false := K.2.2.2.2.2.2.2
/-- a body's contract: called with these arguments at this heap it returns, and Q -/
def OCon (l : Launch) (Z : State) (n0 : Nat) (y : MethodName) (bytes : ByteArray) (maxL : Nat) (ret : Option FieldType) (rm : Room) (as : Array Value) (h0 : Heap) (Q : Option Value → Heap → Prop) : Prop :=
  ∀ ws, MetFree l y (head1 (Jvm.Cond.code y bytes maxL ret :: ws) rm) (fun a U => a = as ∧ Z.Warmed39 U.vm ∧ U.heap = h0) (fun _ _ _ _ _ => True) (fun _ U o U' => ∃ v L, o = .returned v ∧ (Q v U'.heap ∧ Fr n0 L) ∧ FrameEnd U o U' L rm.cells rm.slots)
theorem OCon.of {y : MethodName} {rm : Room} {as : Array Value} {h0 : Heap} {Ls : Array Slot} (hpl : plainFor y = true) (ho : y.cls = own) (hn : y.name = nm) (hen : ∀ m, entryFrame m as maxL = mkF m 0 Ls [])
    (H : ∀ (p : Program) (e : Env) (s : State) (m : MethodId) (below : List Frame) (meth : Method) (c : Code) (T : State), Stand p l e rm s m as below meth c T [] 0 0 → OCx p s m meth c Z own nm bytes maxL ret → T.heap = h0 → OGo p e below s n0 Q rm.cells rm.slots (T.setTop (mkF m 0 Ls []))) : OCon l Z n0 y bytes maxL ret rm as h0 Q := by
  intro ws
  refine MetFree.of_bodySF hpl hisR ?_
  intro p e s m args below meth c s₁ Bd hml0 hP hK
  obtain ⟨rfl, hZ, hh⟩ := hP
  subst ho hn
  obtain ⟨U, o, h1, r⟩ := H p e s m below meth c s₁ (Stand.of_body Bd) ⟨Bd.exec, hZ, Bd.bytes, hml0, findClass_of_methodNamed Bd.named, (name_of_methodNamed Bd.named Bd.method).1, Bd.returns, Bd.notSynchronized⟩ (by rw [← hh, Bd.state]; rfl)
  exact ⟨U, o, castTop (hen m) h1, r⟩
theorem OCon.imp {y : MethodName} {rm : Room} {as : Array Value} {h0 : Heap} {Q' : Option Value → Heap → Prop} (g : OCon l Z n0 y bytes maxL ret rm as h0 Q) (k : ∀ v h, Q v h → Q' v h) : OCon l Z n0 y bytes maxL ret rm as h0 Q' := by
  intro ws p e ha hc hk s m args below hf happ hP hK
  obtain ⟨n, o, h1, h2, h3, v, L, h4, ⟨h5, h6⟩, h7⟩ := g ws p e ha hc hk s m args below hf happ hP hK
  exact ⟨n, o, h1, h2, h3, v, L, h4, ⟨k _ _ h5, h6⟩, h7⟩

theorem o_iload (X : Stand p l e R s m args below meth c T locs cells slots) (K : OCx p s m meth c Z own nm bytes maxL ret) {k : Nat} {v : Int32} (hd : decode bytes pc = .ok (.iload k, 2)) (pc' : Nat) (hp : pc + 2 = pc') (hl : Ls[k]? = some (.val (.int v))) (hr : OGo p e below s n0 Q kc ks (T.setTop (mkF m pc' Ls (.int v :: St)))) : OGo p e below s n0 Q kc ks (T.setTop (mkF m pc Ls St)) := by
  subst hp
  exact OGo.st (fun _ k => XS.iload X.here K.hx rfl (hb K.hby hd) hl k) hr
theorem o_iloadN (X : Stand p l e R s m args below meth c T locs cells slots) (K : OCx p s m meth c Z own nm bytes maxL ret) {k : Fin 4} {v : Int32} (hd : decode bytes pc = .ok (.iload_n k, 1)) (pc' : Nat) (hp : pc + 1 = pc') (hl : Ls[k.val]? = some (.val (.int v))) (hr : OGo p e below s n0 Q kc ks (T.setTop (mkF m pc' Ls (.int v :: St)))) : OGo p e below s n0 Q kc ks (T.setTop (mkF m pc Ls St)) := by
  subst hp
  exact OGo.st (fun _ k => XS.iloadN X.here K.hx rfl (hb K.hby hd) hl k) hr
theorem o_lload (X : Stand p l e R s m args below meth c T locs cells slots) (K : OCx p s m meth c Z own nm bytes maxL ret) {k : Nat} {v : Int64} (hd : decode bytes pc = .ok (.lload k, 2)) (pc' : Nat) (hp : pc + 2 = pc') (hl : Ls[k]? = some (.val (.long v))) (hr : OGo p e below s n0 Q kc ks (T.setTop (mkF m pc' Ls (.long v :: St)))) : OGo p e below s n0 Q kc ks (T.setTop (mkF m pc Ls St)) := by
  subst hp
  exact OGo.st (fun _ k => XS.lload X.here K.hx rfl (hb K.hby hd) hl k) hr
theorem o_lloadN (X : Stand p l e R s m args below meth c T locs cells slots) (K : OCx p s m meth c Z own nm bytes maxL ret) {k : Fin 4} {v : Int64} (hd : decode bytes pc = .ok (.lload_n k, 1)) (pc' : Nat) (hp : pc + 1 = pc') (hl : Ls[k.val]? = some (.val (.long v))) (hr : OGo p e below s n0 Q kc ks (T.setTop (mkF m pc' Ls (.long v :: St)))) : OGo p e below s n0 Q kc ks (T.setTop (mkF m pc Ls St)) := by
  subst hp
  exact OGo.st (fun _ k => XS.lloadN X.here K.hx rfl (hb K.hby hd) hl k) hr
theorem o_aload (X : Stand p l e R s m args below meth c T locs cells slots) (K : OCx p s m meth c Z own nm bytes maxL ret) {k : Nat} {v : Value} (hd : decode bytes pc = .ok (.aload k, 2)) (pc' : Nat) (hp : pc + 2 = pc') (hl : Ls[k]? = some (.val v)) (hv : v.isRef = true) (hr : OGo p e below s n0 Q kc ks (T.setTop (mkF m pc' Ls (v :: St)))) : OGo p e below s n0 Q kc ks (T.setTop (mkF m pc Ls St)) := by
  subst hp
  exact OGo.st (fun _ k => XS.aload X.here K.hx rfl (hb K.hby hd) hl hv k) hr
theorem o_aloadN (X : Stand p l e R s m args below meth c T locs cells slots) (K : OCx p s m meth c Z own nm bytes maxL ret) {k : Fin 4} {v : Value} (hd : decode bytes pc = .ok (.aload_n k, 1)) (pc' : Nat) (hp : pc + 1 = pc') (hl : Ls[k.val]? = some (.val v)) (hv : v.isRef = true) (hr : OGo p e below s n0 Q kc ks (T.setTop (mkF m pc' Ls (v :: St)))) : OGo p e below s n0 Q kc ks (T.setTop (mkF m pc Ls St)) := by
  subst hp
  exact OGo.st (fun _ k => XS.aloadN X.here K.hx rfl (hb K.hby hd) hl hv k) hr
theorem o_istore (X : Stand p l e R s m args below meth c T locs cells slots) (K : OCx p s m meth c Z own nm bytes maxL ret) {k : Nat} {x x' : Int32} (hd : decode bytes pc = .ok (.istore k, 2)) (pc' : Nat) (hp : pc + 2 = pc') (Ls' : Array Slot) (hv : x = x') (hl : storeLocals Ls k (.int x') = some Ls') (hr : OGo p e below s n0 Q kc ks (T.setTop (mkF m pc' Ls' St))) : OGo p e below s n0 Q kc ks (T.setTop (mkF m pc Ls (.int x :: St))) := by
  subst hp
  exact OGo.st (fun _ k => XS.istore X.here K.hx rfl (hb K.hby hd) rfl (hv ▸ hl) k) hr
theorem o_istoreN (X : Stand p l e R s m args below meth c T locs cells slots) (K : OCx p s m meth c Z own nm bytes maxL ret) {k : Fin 4} {x x' : Int32} (hd : decode bytes pc = .ok (.istore_n k, 1)) (pc' : Nat) (hp : pc + 1 = pc') (Ls' : Array Slot) (hv : x = x') (hl : storeLocals Ls k.val (.int x') = some Ls') (hr : OGo p e below s n0 Q kc ks (T.setTop (mkF m pc' Ls' St))) : OGo p e below s n0 Q kc ks (T.setTop (mkF m pc Ls (.int x :: St))) := by
  subst hp
  exact OGo.st (fun _ k => XS.istoreN X.here K.hx rfl (hb K.hby hd) rfl (hv ▸ hl) k) hr
theorem o_lstore (X : Stand p l e R s m args below meth c T locs cells slots) (K : OCx p s m meth c Z own nm bytes maxL ret) {k : Nat} {x x' : Int64} (hd : decode bytes pc = .ok (.lstore k, 2)) (pc' : Nat) (hp : pc + 2 = pc') (Ls' : Array Slot) (hv : x = x') (hl : storeLocals Ls k (.long x') = some Ls') (hr : OGo p e below s n0 Q kc ks (T.setTop (mkF m pc' Ls' St))) : OGo p e below s n0 Q kc ks (T.setTop (mkF m pc Ls (.long x :: St))) := by
  subst hp
  exact OGo.st (fun _ k => XS.lstore X.here K.hx rfl (hb K.hby hd) rfl (hv ▸ hl) k) hr
theorem o_lstoreN (X : Stand p l e R s m args below meth c T locs cells slots) (K : OCx p s m meth c Z own nm bytes maxL ret) {k : Fin 4} {x x' : Int64} (hd : decode bytes pc = .ok (.lstore_n k, 1)) (pc' : Nat) (hp : pc + 1 = pc') (Ls' : Array Slot) (hv : x = x') (hl : storeLocals Ls k.val (.long x') = some Ls') (hr : OGo p e below s n0 Q kc ks (T.setTop (mkF m pc' Ls' St))) : OGo p e below s n0 Q kc ks (T.setTop (mkF m pc Ls (.long x :: St))) := by
  subst hp
  exact OGo.st (fun _ k => XS.lstoreN X.here K.hx rfl (hb K.hby hd) rfl (hv ▸ hl) k) hr
theorem o_astore (X : Stand p l e R s m args below meth c T locs cells slots) (K : OCx p s m meth c Z own nm bytes maxL ret) {k : Nat} {x : Value} (hd : decode bytes pc = .ok (.astore k, 2)) (pc' : Nat) (hp : pc + 2 = pc') (Ls' : Array Slot) (hv : x.isRef = true) (hl : storeLocals Ls k x = some Ls') (hr : OGo p e below s n0 Q kc ks (T.setTop (mkF m pc' Ls' St))) : OGo p e below s n0 Q kc ks (T.setTop (mkF m pc Ls (x :: St))) := by
  subst hp
  exact OGo.st (fun _ k => XS.astore X.here K.hx rfl (hb K.hby hd) rfl hv hl k) hr
theorem o_astoreN (X : Stand p l e R s m args below meth c T locs cells slots) (K : OCx p s m meth c Z own nm bytes maxL ret) {k : Fin 4} {x : Value} (hd : decode bytes pc = .ok (.astore_n k, 1)) (pc' : Nat) (hp : pc + 1 = pc') (Ls' : Array Slot) (hv : x.isRef = true) (hl : storeLocals Ls k.val x = some Ls') (hr : OGo p e below s n0 Q kc ks (T.setTop (mkF m pc' Ls' St))) : OGo p e below s n0 Q kc ks (T.setTop (mkF m pc Ls (x :: St))) := by
  subst hp
  exact OGo.st (fun _ k => XS.astoreN X.here K.hx rfl (hb K.hby hd) rfl hv hl k) hr
theorem o_iinc (X : Stand p l e R s m args below meth c T locs cells slots) (K : OCx p s m meth c Z own nm bytes maxL ret) {k : Nat} {cst : Int} {x x' : Int32} (hd : decode bytes pc = .ok (.iinc k cst, 3)) (pc' : Nat) (hp : pc + 3 = pc') (Ls' : Array Slot) (hl : Ls[k]? = some (.val (.int x))) (hv : x + Int32.ofInt cst = x') (hl' : storeLocals Ls k (.int x') = some Ls') (hr : OGo p e below s n0 Q kc ks (T.setTop (mkF m pc' Ls' St))) : OGo p e below s n0 Q kc ks (T.setTop (mkF m pc Ls St)) := by
  subst hp
  exact OGo.st (fun _ k => XS.iinc X.here K.hx rfl (hb K.hby hd) hl (hv ▸ hl') k) hr
theorem o_iconst (X : Stand p l e R s m args below meth c T locs cells slots) (K : OCx p s m meth c Z own nm bytes maxL ret) {i : Int} (v : Int32) (hd : decode bytes pc = .ok (.iconst i, 1)) (pc' : Nat) (hp : pc + 1 = pc') (hv : Int32.ofInt i = v) (hr : OGo p e below s n0 Q kc ks (T.setTop (mkF m pc' Ls (.int v :: St)))) : OGo p e below s n0 Q kc ks (T.setTop (mkF m pc Ls St)) := by
  subst hp
  exact OGo.st (fun _ k => XS.iconst X.here K.hx rfl (hb K.hby hd) (by rw [hv]; exact k)) hr
theorem o_bipush (X : Stand p l e R s m args below meth c T locs cells slots) (K : OCx p s m meth c Z own nm bytes maxL ret) {i : Int} (v : Int32) (hd : decode bytes pc = .ok (.bipush i, 2)) (pc' : Nat) (hp : pc + 2 = pc') (hv : (Int8.ofInt i).toInt32 = v) (hr : OGo p e below s n0 Q kc ks (T.setTop (mkF m pc' Ls (.int v :: St)))) : OGo p e below s n0 Q kc ks (T.setTop (mkF m pc Ls St)) := by
  subst hp
  exact OGo.st (fun _ k => XS.bipush X.here K.hx rfl (hb K.hby hd) (by rw [hv]; exact k)) hr
theorem o_sipush (X : Stand p l e R s m args below meth c T locs cells slots) (K : OCx p s m meth c Z own nm bytes maxL ret) {i : Int} (v : Int32) (hd : decode bytes pc = .ok (.sipush i, 3)) (pc' : Nat) (hp : pc + 3 = pc') (hv : (Int16.ofInt i).toInt32 = v) (hr : OGo p e below s n0 Q kc ks (T.setTop (mkF m pc' Ls (.int v :: St)))) : OGo p e below s n0 Q kc ks (T.setTop (mkF m pc Ls St)) := by
  subst hp
  exact OGo.st (fun _ k => XS.sipush X.here K.hx rfl (hb K.hby hd) (by rw [hv]; exact k)) hr
theorem o_lconst (X : Stand p l e R s m args below meth c T locs cells slots) (K : OCx p s m meth c Z own nm bytes maxL ret) {i : Fin 2} (v : Int64) (hd : decode bytes pc = .ok (.lconst i, 1)) (pc' : Nat) (hp : pc + 1 = pc') (hv : Int64.ofNat i = v) (hr : OGo p e below s n0 Q kc ks (T.setTop (mkF m pc' Ls (.long v :: St)))) : OGo p e below s n0 Q kc ks (T.setTop (mkF m pc Ls St)) := by
  subst hp
  exact OGo.st (fun _ k => XS.lconst X.here K.hx rfl (hb K.hby hd) (by rw [hv]; exact k)) hr
theorem o_aconst_null (X : Stand p l e R s m args below meth c T locs cells slots) (K : OCx p s m meth c Z own nm bytes maxL ret) (hd : decode bytes pc = .ok (.aconst_null, 1)) (pc' : Nat) (hp : pc + 1 = pc') (hr : OGo p e below s n0 Q kc ks (T.setTop (mkF m pc' Ls (.null :: St)))) : OGo p e below s n0 Q kc ks (T.setTop (mkF m pc Ls St)) := by
  subst hp
  exact OGo.st (fun _ k => XS.aconstNull X.here K.hx rfl (hb K.hby hd) k) hr
theorem o_ldcI (X : Stand p l e R s m args below meth c T locs cells slots) (K : OCx p s m meth c Z own nm bytes maxL ret) {index : Nat} {v : Int32} (hd : decode bytes pc = .ok (.ldc index, 2)) (pc' : Nat) (hp : pc + 2 = pc') (w : (Jvm.Cond.constant own index v).before a0 Z = true) (hr : OGo p e below s n0 Q kc ks (T.setTop (mkF m pc' Ls (.int v :: St)))) : OGo p e below s n0 Q kc ks (T.setTop (mkF m pc Ls St)) := by
  subst hp
  exact OGo.st (fun _ k => Stand.ldcI X K.hx K.hown (mvT K.hZ w) rfl (hb K.hby hd) k) hr
theorem o_ldcWI (X : Stand p l e R s m args below meth c T locs cells slots) (K : OCx p s m meth c Z own nm bytes maxL ret) {index : Nat} {v : Int32} (hd : decode bytes pc = .ok (.ldc_w index, 3)) (pc' : Nat) (hp : pc + 3 = pc') (w : (Jvm.Cond.constant own index v).before a0 Z = true) (hr : OGo p e below s n0 Q kc ks (T.setTop (mkF m pc' Ls (.int v :: St)))) : OGo p e below s n0 Q kc ks (T.setTop (mkF m pc Ls St)) := by
  subst hp
  exact OGo.st (fun _ k => Stand.ldcWI X K.hx K.hown (mvT K.hZ w) rfl (hb K.hby hd) k) hr
theorem o_ldc2J (X : Stand p l e R s m args below meth c T locs cells slots) (K : OCx p s m meth c Z own nm bytes maxL ret) {index : Nat} {v : Int64} (hd : decode bytes pc = .ok (.ldc2_w index, 3)) (pc' : Nat) (hp : pc + 3 = pc') (w : (Jvm.Cond.constantLong own index v).before a0 Z = true) (hr : OGo p e below s n0 Q kc ks (T.setTop (mkF m pc' Ls (.long v :: St)))) : OGo p e below s n0 Q kc ks (T.setTop (mkF m pc Ls St)) := by
  subst hp
  exact OGo.st (fun _ k => Stand.ldc2J X K.hx K.hown (mvT K.hZ w) rfl (hb K.hby hd) k) hr
theorem o_iadd (X : Stand p l e R s m args below meth c T locs cells slots) (K : OCx p s m meth c Z own nm bytes maxL ret) {x y : Int32} (hd : decode bytes pc = .ok (.iadd, 1)) (pc' : Nat) (hp : pc + 1 = pc') (hr : OGo p e below s n0 Q kc ks (T.setTop (mkF m pc' Ls (.int (x + y) :: St)))) : OGo p e below s n0 Q kc ks (T.setTop (mkF m pc Ls (.int y :: .int x :: St))) := by
  subst hp
  exact OGo.st (fun _ k => XS.iadd X.here K.hx rfl (hb K.hby hd) rfl k) hr
theorem o_isub (X : Stand p l e R s m args below meth c T locs cells slots) (K : OCx p s m meth c Z own nm bytes maxL ret) {x y : Int32} (hd : decode bytes pc = .ok (.isub, 1)) (pc' : Nat) (hp : pc + 1 = pc') (hr : OGo p e below s n0 Q kc ks (T.setTop (mkF m pc' Ls (.int (x - y) :: St)))) : OGo p e below s n0 Q kc ks (T.setTop (mkF m pc Ls (.int y :: .int x :: St))) := by
  subst hp
  exact OGo.st (fun _ k => XS.isub X.here K.hx rfl (hb K.hby hd) rfl k) hr
theorem o_imul (X : Stand p l e R s m args below meth c T locs cells slots) (K : OCx p s m meth c Z own nm bytes maxL ret) {x y : Int32} (hd : decode bytes pc = .ok (.imul, 1)) (pc' : Nat) (hp : pc + 1 = pc') (hr : OGo p e below s n0 Q kc ks (T.setTop (mkF m pc' Ls (.int (x * y) :: St)))) : OGo p e below s n0 Q kc ks (T.setTop (mkF m pc Ls (.int y :: .int x :: St))) := by
  subst hp
  exact OGo.st (fun _ k => XS.imul X.here K.hx rfl (hb K.hby hd) rfl k) hr
theorem o_iand (X : Stand p l e R s m args below meth c T locs cells slots) (K : OCx p s m meth c Z own nm bytes maxL ret) {x y : Int32} (hd : decode bytes pc = .ok (.iand, 1)) (pc' : Nat) (hp : pc + 1 = pc') (hr : OGo p e below s n0 Q kc ks (T.setTop (mkF m pc' Ls (.int (x &&& y) :: St)))) : OGo p e below s n0 Q kc ks (T.setTop (mkF m pc Ls (.int y :: .int x :: St))) := by
  subst hp
  exact OGo.st (fun _ k => XS.iand X.here K.hx rfl (hb K.hby hd) rfl k) hr
theorem o_ior (X : Stand p l e R s m args below meth c T locs cells slots) (K : OCx p s m meth c Z own nm bytes maxL ret) {x y : Int32} (hd : decode bytes pc = .ok (.ior, 1)) (pc' : Nat) (hp : pc + 1 = pc') (hr : OGo p e below s n0 Q kc ks (T.setTop (mkF m pc' Ls (.int (x ||| y) :: St)))) : OGo p e below s n0 Q kc ks (T.setTop (mkF m pc Ls (.int y :: .int x :: St))) := by
  subst hp
  exact OGo.st (fun _ k => XS.ior X.here K.hx rfl (hb K.hby hd) rfl k) hr
theorem o_ixor (X : Stand p l e R s m args below meth c T locs cells slots) (K : OCx p s m meth c Z own nm bytes maxL ret) {x y : Int32} (hd : decode bytes pc = .ok (.ixor, 1)) (pc' : Nat) (hp : pc + 1 = pc') (hr : OGo p e below s n0 Q kc ks (T.setTop (mkF m pc' Ls (.int (x ^^^ y) :: St)))) : OGo p e below s n0 Q kc ks (T.setTop (mkF m pc Ls (.int y :: .int x :: St))) := by
  subst hp
  exact OGo.st (fun _ k => XS.ixor X.here K.hx rfl (hb K.hby hd) rfl k) hr
theorem o_ishl (X : Stand p l e R s m args below meth c T locs cells slots) (K : OCx p s m meth c Z own nm bytes maxL ret) {x y : Int32} (hd : decode bytes pc = .ok (.ishl, 1)) (pc' : Nat) (hp : pc + 1 = pc') (hr : OGo p e below s n0 Q kc ks (T.setTop (mkF m pc' Ls (.int (x <<< (y &&& 31)) :: St)))) : OGo p e below s n0 Q kc ks (T.setTop (mkF m pc Ls (.int y :: .int x :: St))) := by
  subst hp
  exact OGo.st (fun _ k => XS.ishl X.here K.hx rfl (hb K.hby hd) rfl k) hr
theorem o_ishr (X : Stand p l e R s m args below meth c T locs cells slots) (K : OCx p s m meth c Z own nm bytes maxL ret) {x y : Int32} (hd : decode bytes pc = .ok (.ishr, 1)) (pc' : Nat) (hp : pc + 1 = pc') (hr : OGo p e below s n0 Q kc ks (T.setTop (mkF m pc' Ls (.int (x >>> (y &&& 31)) :: St)))) : OGo p e below s n0 Q kc ks (T.setTop (mkF m pc Ls (.int y :: .int x :: St))) := by
  subst hp
  exact OGo.st (fun _ k => XS.ishr X.here K.hx rfl (hb K.hby hd) rfl k) hr
theorem o_iushr (X : Stand p l e R s m args below meth c T locs cells slots) (K : OCx p s m meth c Z own nm bytes maxL ret) {x y : Int32} (hd : decode bytes pc = .ok (.iushr, 1)) (pc' : Nat) (hp : pc + 1 = pc') (hr : OGo p e below s n0 Q kc ks (T.setTop (mkF m pc' Ls (.int ((x.toUInt32 >>> (y &&& 31).toUInt32).toInt32) :: St)))) : OGo p e below s n0 Q kc ks (T.setTop (mkF m pc Ls (.int y :: .int x :: St))) := by
  subst hp
  exact OGo.st (fun _ k => XS.iushr X.here K.hx rfl (hb K.hby hd) rfl k) hr
theorem o_ladd (X : Stand p l e R s m args below meth c T locs cells slots) (K : OCx p s m meth c Z own nm bytes maxL ret) {x y : Int64} (hd : decode bytes pc = .ok (.ladd, 1)) (pc' : Nat) (hp : pc + 1 = pc') (hr : OGo p e below s n0 Q kc ks (T.setTop (mkF m pc' Ls (.long (x + y) :: St)))) : OGo p e below s n0 Q kc ks (T.setTop (mkF m pc Ls (.long y :: .long x :: St))) := by
  subst hp
  exact OGo.st (fun _ k => XS.ladd X.here K.hx rfl (hb K.hby hd) rfl k) hr
theorem o_lsub (X : Stand p l e R s m args below meth c T locs cells slots) (K : OCx p s m meth c Z own nm bytes maxL ret) {x y : Int64} (hd : decode bytes pc = .ok (.lsub, 1)) (pc' : Nat) (hp : pc + 1 = pc') (hr : OGo p e below s n0 Q kc ks (T.setTop (mkF m pc' Ls (.long (x - y) :: St)))) : OGo p e below s n0 Q kc ks (T.setTop (mkF m pc Ls (.long y :: .long x :: St))) := by
  subst hp
  exact OGo.st (fun _ k => XS.lsub X.here K.hx rfl (hb K.hby hd) rfl k) hr
theorem o_lmul (X : Stand p l e R s m args below meth c T locs cells slots) (K : OCx p s m meth c Z own nm bytes maxL ret) {x y : Int64} (hd : decode bytes pc = .ok (.lmul, 1)) (pc' : Nat) (hp : pc + 1 = pc') (hr : OGo p e below s n0 Q kc ks (T.setTop (mkF m pc' Ls (.long (x * y) :: St)))) : OGo p e below s n0 Q kc ks (T.setTop (mkF m pc Ls (.long y :: .long x :: St))) := by
  subst hp
  exact OGo.st (fun _ k => XS.lmul X.here K.hx rfl (hb K.hby hd) rfl k) hr
theorem o_land (X : Stand p l e R s m args below meth c T locs cells slots) (K : OCx p s m meth c Z own nm bytes maxL ret) {x y : Int64} (hd : decode bytes pc = .ok (.land, 1)) (pc' : Nat) (hp : pc + 1 = pc') (hr : OGo p e below s n0 Q kc ks (T.setTop (mkF m pc' Ls (.long (x &&& y) :: St)))) : OGo p e below s n0 Q kc ks (T.setTop (mkF m pc Ls (.long y :: .long x :: St))) := by
  subst hp
  exact OGo.st (fun _ k => XS.land X.here K.hx rfl (hb K.hby hd) rfl k) hr
theorem o_lor (X : Stand p l e R s m args below meth c T locs cells slots) (K : OCx p s m meth c Z own nm bytes maxL ret) {x y : Int64} (hd : decode bytes pc = .ok (.lor, 1)) (pc' : Nat) (hp : pc + 1 = pc') (hr : OGo p e below s n0 Q kc ks (T.setTop (mkF m pc' Ls (.long (x ||| y) :: St)))) : OGo p e below s n0 Q kc ks (T.setTop (mkF m pc Ls (.long y :: .long x :: St))) := by
  subst hp
  exact OGo.st (fun _ k => XS.lor X.here K.hx rfl (hb K.hby hd) rfl k) hr
theorem o_lxor (X : Stand p l e R s m args below meth c T locs cells slots) (K : OCx p s m meth c Z own nm bytes maxL ret) {x y : Int64} (hd : decode bytes pc = .ok (.lxor, 1)) (pc' : Nat) (hp : pc + 1 = pc') (hr : OGo p e below s n0 Q kc ks (T.setTop (mkF m pc' Ls (.long (x ^^^ y) :: St)))) : OGo p e below s n0 Q kc ks (T.setTop (mkF m pc Ls (.long y :: .long x :: St))) := by
  subst hp
  exact OGo.st (fun _ k => XS.lxor X.here K.hx rfl (hb K.hby hd) rfl k) hr
theorem o_lshl (X : Stand p l e R s m args below meth c T locs cells slots) (K : OCx p s m meth c Z own nm bytes maxL ret) {x : Int64} {y : Int32} (hd : decode bytes pc = .ok (.lshl, 1)) (pc' : Nat) (hp : pc + 1 = pc') (hr : OGo p e below s n0 Q kc ks (T.setTop (mkF m pc' Ls (.long (x <<< (y &&& 0x3f).toInt64) :: St)))) : OGo p e below s n0 Q kc ks (T.setTop (mkF m pc Ls (.int y :: .long x :: St))) := by
  subst hp
  exact OGo.st (fun _ k => XS.lshl X.here K.hx rfl (hb K.hby hd) rfl k) hr
theorem o_lshr (X : Stand p l e R s m args below meth c T locs cells slots) (K : OCx p s m meth c Z own nm bytes maxL ret) {x : Int64} {y : Int32} (hd : decode bytes pc = .ok (.lshr, 1)) (pc' : Nat) (hp : pc + 1 = pc') (hr : OGo p e below s n0 Q kc ks (T.setTop (mkF m pc' Ls (.long (x >>> (y &&& 0x3f).toInt64) :: St)))) : OGo p e below s n0 Q kc ks (T.setTop (mkF m pc Ls (.int y :: .long x :: St))) := by
  subst hp
  exact OGo.st (fun _ k => XS.lshr X.here K.hx rfl (hb K.hby hd) rfl k) hr
theorem o_lushr (X : Stand p l e R s m args below meth c T locs cells slots) (K : OCx p s m meth c Z own nm bytes maxL ret) {x : Int64} {y : Int32} (hd : decode bytes pc = .ok (.lushr, 1)) (pc' : Nat) (hp : pc + 1 = pc') (hr : OGo p e below s n0 Q kc ks (T.setTop (mkF m pc' Ls (.long ((x.toUInt64 >>> (y &&& 0x3f).toInt64.toUInt64).toInt64) :: St)))) : OGo p e below s n0 Q kc ks (T.setTop (mkF m pc Ls (.int y :: .long x :: St))) := by
  subst hp
  exact OGo.st (fun _ k => XS.lushr X.here K.hx rfl (hb K.hby hd) rfl k) hr
theorem o_ldiv (X : Stand p l e R s m args below meth c T locs cells slots) (K : OCx p s m meth c Z own nm bytes maxL ret) {x y : Int64} (hd : decode bytes pc = .ok (.ldiv, 1)) (pc' : Nat) (hp : pc + 1 = pc') (hy : y ≠ 0) (hr : OGo p e below s n0 Q kc ks (T.setTop (mkF m pc' Ls (.long (x / y) :: St)))) : OGo p e below s n0 Q kc ks (T.setTop (mkF m pc Ls (.long y :: .long x :: St))) := by
  subst hp
  exact OGo.st (fun _ k => XS.ldiv X.here K.hx rfl (hb K.hby hd) rfl hy k) hr
theorem o_idiv (X : Stand p l e R s m args below meth c T locs cells slots) (K : OCx p s m meth c Z own nm bytes maxL ret) {x y : Int32} (hd : decode bytes pc = .ok (.idiv, 1)) (pc' : Nat) (hp : pc + 1 = pc') (hy : y ≠ 0) (hr : OGo p e below s n0 Q kc ks (T.setTop (mkF m pc' Ls (.int (x / y) :: St)))) : OGo p e below s n0 Q kc ks (T.setTop (mkF m pc Ls (.int y :: .int x :: St))) := by
  subst hp
  exact OGo.st (fun _ k => XS.idiv X.here K.hx rfl (hb K.hby hd) rfl hy k) hr
theorem o_irem (X : Stand p l e R s m args below meth c T locs cells slots) (K : OCx p s m meth c Z own nm bytes maxL ret) {x y : Int32} (hd : decode bytes pc = .ok (.irem, 1)) (pc' : Nat) (hp : pc + 1 = pc') (hy : y ≠ 0) (hr : OGo p e below s n0 Q kc ks (T.setTop (mkF m pc' Ls (.int (x % y) :: St)))) : OGo p e below s n0 Q kc ks (T.setTop (mkF m pc Ls (.int y :: .int x :: St))) := by
  subst hp
  exact OGo.st (fun _ k => iremM X K.hx rfl (hb K.hby hd) rfl hy k) hr
theorem o_ineg (X : Stand p l e R s m args below meth c T locs cells slots) (K : OCx p s m meth c Z own nm bytes maxL ret) {x : Int32} (hd : decode bytes pc = .ok (.ineg, 1)) (pc' : Nat) (hp : pc + 1 = pc') (hr : OGo p e below s n0 Q kc ks (T.setTop (mkF m pc' Ls (.int (-x) :: St)))) : OGo p e below s n0 Q kc ks (T.setTop (mkF m pc Ls (.int x :: St))) := by
  subst hp
  exact OGo.st (fun _ k => XS.ineg X.here K.hx rfl (hb K.hby hd) rfl k) hr
theorem o_lneg (X : Stand p l e R s m args below meth c T locs cells slots) (K : OCx p s m meth c Z own nm bytes maxL ret) {x : Int64} (hd : decode bytes pc = .ok (.lneg, 1)) (pc' : Nat) (hp : pc + 1 = pc') (hr : OGo p e below s n0 Q kc ks (T.setTop (mkF m pc' Ls (.long (-x) :: St)))) : OGo p e below s n0 Q kc ks (T.setTop (mkF m pc Ls (.long x :: St))) := by
  subst hp
  exact OGo.st (fun _ k => XS.lneg X.here K.hx rfl (hb K.hby hd) rfl k) hr
theorem o_i2b (X : Stand p l e R s m args below meth c T locs cells slots) (K : OCx p s m meth c Z own nm bytes maxL ret) {x : Int32} (hd : decode bytes pc = .ok (.i2b, 1)) (pc' : Nat) (hp : pc + 1 = pc') (hr : OGo p e below s n0 Q kc ks (T.setTop (mkF m pc' Ls (.int (x.toInt8.toInt32) :: St)))) : OGo p e below s n0 Q kc ks (T.setTop (mkF m pc Ls (.int x :: St))) := by
  subst hp
  exact OGo.st (fun _ k => XS.i2b X.here K.hx rfl (hb K.hby hd) rfl k) hr
theorem o_i2c (X : Stand p l e R s m args below meth c T locs cells slots) (K : OCx p s m meth c Z own nm bytes maxL ret) {x : Int32} (hd : decode bytes pc = .ok (.i2c, 1)) (pc' : Nat) (hp : pc + 1 = pc') (hr : OGo p e below s n0 Q kc ks (T.setTop (mkF m pc' Ls (.int (x.toUInt32.toUInt16.toUInt32.toInt32) :: St)))) : OGo p e below s n0 Q kc ks (T.setTop (mkF m pc Ls (.int x :: St))) := by
  subst hp
  exact OGo.st (fun _ k => XS.i2c X.here K.hx rfl (hb K.hby hd) rfl k) hr
theorem o_i2s (X : Stand p l e R s m args below meth c T locs cells slots) (K : OCx p s m meth c Z own nm bytes maxL ret) {x : Int32} (hd : decode bytes pc = .ok (.i2s, 1)) (pc' : Nat) (hp : pc + 1 = pc') (hr : OGo p e below s n0 Q kc ks (T.setTop (mkF m pc' Ls (.int (x.toInt16.toInt32) :: St)))) : OGo p e below s n0 Q kc ks (T.setTop (mkF m pc Ls (.int x :: St))) := by
  subst hp
  exact OGo.st (fun _ k => XS.i2s X.here K.hx rfl (hb K.hby hd) rfl k) hr
theorem o_i2l (X : Stand p l e R s m args below meth c T locs cells slots) (K : OCx p s m meth c Z own nm bytes maxL ret) {x : Int32} (hd : decode bytes pc = .ok (.i2l, 1)) (pc' : Nat) (hp : pc + 1 = pc') (hr : OGo p e below s n0 Q kc ks (T.setTop (mkF m pc' Ls (.long (x.toInt64) :: St)))) : OGo p e below s n0 Q kc ks (T.setTop (mkF m pc Ls (.int x :: St))) := by
  subst hp
  exact OGo.st (fun _ k => XS.i2l X.here K.hx rfl (hb K.hby hd) rfl k) hr
theorem o_l2i (X : Stand p l e R s m args below meth c T locs cells slots) (K : OCx p s m meth c Z own nm bytes maxL ret) {x : Int64} (hd : decode bytes pc = .ok (.l2i, 1)) (pc' : Nat) (hp : pc + 1 = pc') (hr : OGo p e below s n0 Q kc ks (T.setTop (mkF m pc' Ls (.int (x.toInt32) :: St)))) : OGo p e below s n0 Q kc ks (T.setTop (mkF m pc Ls (.long x :: St))) := by
  subst hp
  exact OGo.st (fun _ k => XS.l2i X.here K.hx rfl (hb K.hby hd) rfl k) hr
theorem o_lcmp (X : Stand p l e R s m args below meth c T locs cells slots) (K : OCx p s m meth c Z own nm bytes maxL ret) {x y : Int64} (hd : decode bytes pc = .ok (.lcmp, 1)) (pc' : Nat) (hp : pc + 1 = pc') (hr : OGo p e below s n0 Q kc ks (T.setTop (mkF m pc' Ls (.int (lcmpW x y) :: St)))) : OGo p e below s n0 Q kc ks (T.setTop (mkF m pc Ls (.long y :: .long x :: St))) := by
  subst hp
  exact OGo.st (fun _ k => XS.lcmp X.here K.hx rfl (hb K.hby hd) rfl k) hr
theorem o_dup (X : Stand p l e R s m args below meth c T locs cells slots) (K : OCx p s m meth c Z own nm bytes maxL ret) {x : Value} (hd : decode bytes pc = .ok (.dup, 1)) (pc' : Nat) (hp : pc + 1 = pc') (hc : x.category = 1) (hr : OGo p e below s n0 Q kc ks (T.setTop (mkF m pc' Ls (x :: x :: St)))) : OGo p e below s n0 Q kc ks (T.setTop (mkF m pc Ls (x :: St))) := by
  subst hp
  exact OGo.st (fun _ k => XS.dup X.here K.hx rfl (hb K.hby hd) rfl hc k) hr
theorem o_pop (X : Stand p l e R s m args below meth c T locs cells slots) (K : OCx p s m meth c Z own nm bytes maxL ret) {x : Value} (hd : decode bytes pc = .ok (.pop, 1)) (pc' : Nat) (hp : pc + 1 = pc') (hc : x.category = 1) (hr : OGo p e below s n0 Q kc ks (T.setTop (mkF m pc' Ls St))) : OGo p e below s n0 Q kc ks (T.setTop (mkF m pc Ls (x :: St))) := by
  subst hp
  exact OGo.st (fun _ k => XS.pop X.here K.hx rfl (hb K.hby hd) rfl hc k) hr
theorem o_dupX1 (X : Stand p l e R s m args below meth c T locs cells slots) (K : OCx p s m meth c Z own nm bytes maxL ret) {x y : Value} (hd : decode bytes pc = .ok (.dup_x1, 1)) (pc' : Nat) (hp : pc + 1 = pc') (hc : x.category = 1) (hc' : y.category = 1) (hr : OGo p e below s n0 Q kc ks (T.setTop (mkF m pc' Ls (x :: y :: x :: St)))) : OGo p e below s n0 Q kc ks (T.setTop (mkF m pc Ls (x :: y :: St))) := by
  subst hp
  exact OGo.st (fun _ k => XS.dupX1 X.here K.hx rfl (hb K.hby hd) rfl hc hc' k) hr
theorem o_dup2 (X : Stand p l e R s m args below meth c T locs cells slots) (K : OCx p s m meth c Z own nm bytes maxL ret) {x y : Value} (hd : decode bytes pc = .ok (.dup2, 1)) (pc' : Nat) (hp : pc + 1 = pc') (hc : x.category = 1) (hc' : y.category = 1) (hr : OGo p e below s n0 Q kc ks (T.setTop (mkF m pc' Ls (x :: y :: x :: y :: St)))) : OGo p e below s n0 Q kc ks (T.setTop (mkF m pc Ls (x :: y :: St))) := by
  subst hp
  exact OGo.st (fun _ k => Jvm.Free.XT.dup2 X.here K.hx rfl (hb K.hby hd) rfl hc hc' k) hr
theorem o_dup2L (X : Stand p l e R s m args below meth c T locs cells slots) (K : OCx p s m meth c Z own nm bytes maxL ret) {x : Int64} (hd : decode bytes pc = .ok (.dup2, 1)) (pc' : Nat) (hp : pc + 1 = pc') (hr : OGo p e below s n0 Q kc ks (T.setTop (mkF m pc' Ls (.long x :: .long x :: St)))) : OGo p e below s n0 Q kc ks (T.setTop (mkF m pc Ls (.long x :: St))) := by
  subst hp
  exact OGo.st (fun _ k => Jvm.Free.XT.dup2L X.here K.hx rfl (hb K.hby hd) rfl k) hr
theorem o_goto (X : Stand p l e R s m args below meth c T locs cells slots) (K : OCx p s m meth c Z own nm bytes maxL ret) {o : Int} (hd : decode bytes pc = .ok (.goto o, 3)) (pc' : Nat) (ho : 0 ≤ (pc : Int) + o) (hp : ((pc : Int) + o).toNat = pc') (hr : OGo p e below s n0 Q kc ks (T.setTop (mkF m pc' Ls St))) : OGo p e below s n0 Q kc ks (T.setTop (mkF m pc Ls St)) :=
  OGo.st (fun _ k => XS.goto X.here K.hx rfl (pc0 := pc) rfl (hb K.hby hd) ho hp k) hr
theorem o_icmp_lt_t (X : Stand p l e R s m args below meth c T locs cells slots) (K : OCx p s m meth c Z own nm bytes maxL ret) {x y : Int32} {o : Int} (hd : decode bytes pc = .ok (.if_icmp .lt o, 3)) (pt : Nat) (ho : 0 ≤ (pc : Int) + o) (hp : ((pc : Int) + o).toNat = pt) (q : x.toInt < y.toInt) (hr : OGo p e below s n0 Q kc ks (T.setTop (mkF m pt Ls St))) : OGo p e below s n0 Q kc ks (T.setTop (mkF m pc Ls (.int y :: .int x :: St))) :=
  OGo.st (fun _ k => XS.icmpYes X.here K.hx rfl (pc0 := pc) rfl (hb K.hby hd) rfl ((tlt (Int32.lt_iff_toInt_lt.mpr q)).1) ho hp k) hr
theorem o_icmp_lt_f (X : Stand p l e R s m args below meth c T locs cells slots) (K : OCx p s m meth c Z own nm bytes maxL ret) {x y : Int32} {o : Int} (hd : decode bytes pc = .ok (.if_icmp .lt o, 3)) (pc' : Nat) (hp : pc + 3 = pc') (q : y.toInt ≤ x.toInt) (hr : OGo p e below s n0 Q kc ks (T.setTop (mkF m pc' Ls St))) : OGo p e below s n0 Q kc ks (T.setTop (mkF m pc Ls (.int y :: .int x :: St))) := by
  subst hp
  exact OGo.st (fun _ k => XS.icmpNo X.here K.hx rfl (hb K.hby hd) rfl ((flt (fun r => Int.not_lt.mpr q (Int32.lt_iff_toInt_lt.mp r))).1) k) hr
theorem o_icmp_lt (X : Stand p l e R s m args below meth c T locs cells slots) (K : OCx p s m meth c Z own nm bytes maxL ret) {x y : Int32} {o : Int} (hd : decode bytes pc = .ok (.if_icmp .lt o, 3)) (pt : Nat) (ho : 0 ≤ (pc : Int) + o) (hp : ((pc : Int) + o).toNat = pt) (pc' : Nat) (hp' : pc + 3 = pc') (h1 : x.toInt < y.toInt → OGo p e below s n0 Q kc ks (T.setTop (mkF m pt Ls St))) (h2 : y.toInt ≤ x.toInt → OGo p e below s n0 Q kc ks (T.setTop (mkF m pc' Ls St))) : OGo p e below s n0 Q kc ks (T.setTop (mkF m pc Ls (.int y :: .int x :: St))) :=
  (Classical.em (x.toInt < y.toInt)).elim (fun q => o_icmp_lt_t X K hd pt ho hp q (h1 q)) (fun q => o_icmp_lt_f X K hd pc' hp' (Int.not_lt.mp q) (h2 (Int.not_lt.mp q)))
theorem o_if_lt_t (X : Stand p l e R s m args below meth c T locs cells slots) (K : OCx p s m meth c Z own nm bytes maxL ret) {x : Int32} {o : Int} (hd : decode bytes pc = .ok (.ifCond .lt o, 3)) (pt : Nat) (ho : 0 ≤ (pc : Int) + o) (hp : ((pc : Int) + o).toNat = pt) (q : x.toInt < 0) (hr : OGo p e below s n0 Q kc ks (T.setTop (mkF m pt Ls St))) : OGo p e below s n0 Q kc ks (T.setTop (mkF m pc Ls (.int x :: St))) :=
  OGo.st (fun _ k => XS.ifYes X.here K.hx rfl (pc0 := pc) rfl (hb K.hby hd) rfl ((if0 _ _).trans (tlt (Int32.lt_iff_toInt_lt.mpr (show x.toInt < (0 : Int32).toInt from q))).1) ho hp k) hr
theorem o_if_lt_f (X : Stand p l e R s m args below meth c T locs cells slots) (K : OCx p s m meth c Z own nm bytes maxL ret) {x : Int32} {o : Int} (hd : decode bytes pc = .ok (.ifCond .lt o, 3)) (pc' : Nat) (hp : pc + 3 = pc') (q : 0 ≤ x.toInt) (hr : OGo p e below s n0 Q kc ks (T.setTop (mkF m pc' Ls St))) : OGo p e below s n0 Q kc ks (T.setTop (mkF m pc Ls (.int x :: St))) := by
  subst hp
  exact OGo.st (fun _ k => XS.ifNo X.here K.hx rfl (hb K.hby hd) rfl ((if0 _ _).trans (flt (fun r => Int.not_lt.mpr (show (0 : Int32).toInt ≤ x.toInt from q) (Int32.lt_iff_toInt_lt.mp r))).1) k) hr
theorem o_if_lt (X : Stand p l e R s m args below meth c T locs cells slots) (K : OCx p s m meth c Z own nm bytes maxL ret) {x : Int32} {o : Int} (hd : decode bytes pc = .ok (.ifCond .lt o, 3)) (pt : Nat) (ho : 0 ≤ (pc : Int) + o) (hp : ((pc : Int) + o).toNat = pt) (pc' : Nat) (hp' : pc + 3 = pc') (h1 : x.toInt < 0 → OGo p e below s n0 Q kc ks (T.setTop (mkF m pt Ls St))) (h2 : 0 ≤ x.toInt → OGo p e below s n0 Q kc ks (T.setTop (mkF m pc' Ls St))) : OGo p e below s n0 Q kc ks (T.setTop (mkF m pc Ls (.int x :: St))) :=
  (Classical.em (x.toInt < 0)).elim (fun q => o_if_lt_t X K hd pt ho hp q (h1 q)) (fun q => o_if_lt_f X K hd pc' hp' (Int.not_lt.mp q) (h2 (Int.not_lt.mp q)))
theorem o_icmp_ge_t (X : Stand p l e R s m args below meth c T locs cells slots) (K : OCx p s m meth c Z own nm bytes maxL ret) {x y : Int32} {o : Int} (hd : decode bytes pc = .ok (.if_icmp .ge o, 3)) (pt : Nat) (ho : 0 ≤ (pc : Int) + o) (hp : ((pc : Int) + o).toNat = pt) (q : y.toInt ≤ x.toInt) (hr : OGo p e below s n0 Q kc ks (T.setTop (mkF m pt Ls St))) : OGo p e below s n0 Q kc ks (T.setTop (mkF m pc Ls (.int y :: .int x :: St))) :=
  OGo.st (fun _ k => XS.icmpYes X.here K.hx rfl (pc0 := pc) rfl (hb K.hby hd) rfl ((flt (fun r => Int.not_lt.mpr q (Int32.lt_iff_toInt_lt.mp r))).2.1) ho hp k) hr
theorem o_icmp_ge_f (X : Stand p l e R s m args below meth c T locs cells slots) (K : OCx p s m meth c Z own nm bytes maxL ret) {x y : Int32} {o : Int} (hd : decode bytes pc = .ok (.if_icmp .ge o, 3)) (pc' : Nat) (hp : pc + 3 = pc') (q : x.toInt < y.toInt) (hr : OGo p e below s n0 Q kc ks (T.setTop (mkF m pc' Ls St))) : OGo p e below s n0 Q kc ks (T.setTop (mkF m pc Ls (.int y :: .int x :: St))) := by
  subst hp
  exact OGo.st (fun _ k => XS.icmpNo X.here K.hx rfl (hb K.hby hd) rfl ((tlt (Int32.lt_iff_toInt_lt.mpr q)).2.1) k) hr
theorem o_icmp_ge (X : Stand p l e R s m args below meth c T locs cells slots) (K : OCx p s m meth c Z own nm bytes maxL ret) {x y : Int32} {o : Int} (hd : decode bytes pc = .ok (.if_icmp .ge o, 3)) (pt : Nat) (ho : 0 ≤ (pc : Int) + o) (hp : ((pc : Int) + o).toNat = pt) (pc' : Nat) (hp' : pc + 3 = pc') (h1 : y.toInt ≤ x.toInt → OGo p e below s n0 Q kc ks (T.setTop (mkF m pt Ls St))) (h2 : x.toInt < y.toInt → OGo p e below s n0 Q kc ks (T.setTop (mkF m pc' Ls St))) : OGo p e below s n0 Q kc ks (T.setTop (mkF m pc Ls (.int y :: .int x :: St))) :=
  (Classical.em (y.toInt ≤ x.toInt)).elim (fun q => o_icmp_ge_t X K hd pt ho hp q (h1 q)) (fun q => o_icmp_ge_f X K hd pc' hp' (Int.not_le.mp q) (h2 (Int.not_le.mp q)))
theorem o_if_ge_t (X : Stand p l e R s m args below meth c T locs cells slots) (K : OCx p s m meth c Z own nm bytes maxL ret) {x : Int32} {o : Int} (hd : decode bytes pc = .ok (.ifCond .ge o, 3)) (pt : Nat) (ho : 0 ≤ (pc : Int) + o) (hp : ((pc : Int) + o).toNat = pt) (q : 0 ≤ x.toInt) (hr : OGo p e below s n0 Q kc ks (T.setTop (mkF m pt Ls St))) : OGo p e below s n0 Q kc ks (T.setTop (mkF m pc Ls (.int x :: St))) :=
  OGo.st (fun _ k => XS.ifYes X.here K.hx rfl (pc0 := pc) rfl (hb K.hby hd) rfl ((if0 _ _).trans (flt (fun r => Int.not_lt.mpr (show (0 : Int32).toInt ≤ x.toInt from q) (Int32.lt_iff_toInt_lt.mp r))).2.1) ho hp k) hr
theorem o_if_ge_f (X : Stand p l e R s m args below meth c T locs cells slots) (K : OCx p s m meth c Z own nm bytes maxL ret) {x : Int32} {o : Int} (hd : decode bytes pc = .ok (.ifCond .ge o, 3)) (pc' : Nat) (hp : pc + 3 = pc') (q : x.toInt < 0) (hr : OGo p e below s n0 Q kc ks (T.setTop (mkF m pc' Ls St))) : OGo p e below s n0 Q kc ks (T.setTop (mkF m pc Ls (.int x :: St))) := by
  subst hp
  exact OGo.st (fun _ k => XS.ifNo X.here K.hx rfl (hb K.hby hd) rfl ((if0 _ _).trans (tlt (Int32.lt_iff_toInt_lt.mpr (show x.toInt < (0 : Int32).toInt from q))).2.1) k) hr
theorem o_if_ge (X : Stand p l e R s m args below meth c T locs cells slots) (K : OCx p s m meth c Z own nm bytes maxL ret) {x : Int32} {o : Int} (hd : decode bytes pc = .ok (.ifCond .ge o, 3)) (pt : Nat) (ho : 0 ≤ (pc : Int) + o) (hp : ((pc : Int) + o).toNat = pt) (pc' : Nat) (hp' : pc + 3 = pc') (h1 : 0 ≤ x.toInt → OGo p e below s n0 Q kc ks (T.setTop (mkF m pt Ls St))) (h2 : x.toInt < 0 → OGo p e below s n0 Q kc ks (T.setTop (mkF m pc' Ls St))) : OGo p e below s n0 Q kc ks (T.setTop (mkF m pc Ls (.int x :: St))) :=
  (Classical.em (0 ≤ x.toInt)).elim (fun q => o_if_ge_t X K hd pt ho hp q (h1 q)) (fun q => o_if_ge_f X K hd pc' hp' (Int.not_le.mp q) (h2 (Int.not_le.mp q)))
theorem o_icmp_gt_t (X : Stand p l e R s m args below meth c T locs cells slots) (K : OCx p s m meth c Z own nm bytes maxL ret) {x y : Int32} {o : Int} (hd : decode bytes pc = .ok (.if_icmp .gt o, 3)) (pt : Nat) (ho : 0 ≤ (pc : Int) + o) (hp : ((pc : Int) + o).toNat = pt) (q : y.toInt < x.toInt) (hr : OGo p e below s n0 Q kc ks (T.setTop (mkF m pt Ls St))) : OGo p e below s n0 Q kc ks (T.setTop (mkF m pc Ls (.int y :: .int x :: St))) :=
  OGo.st (fun _ k => XS.icmpYes X.here K.hx rfl (pc0 := pc) rfl (hb K.hby hd) rfl ((tlt (Int32.lt_iff_toInt_lt.mpr q)).2.2.1) ho hp k) hr
theorem o_icmp_gt_f (X : Stand p l e R s m args below meth c T locs cells slots) (K : OCx p s m meth c Z own nm bytes maxL ret) {x y : Int32} {o : Int} (hd : decode bytes pc = .ok (.if_icmp .gt o, 3)) (pc' : Nat) (hp : pc + 3 = pc') (q : x.toInt ≤ y.toInt) (hr : OGo p e below s n0 Q kc ks (T.setTop (mkF m pc' Ls St))) : OGo p e below s n0 Q kc ks (T.setTop (mkF m pc Ls (.int y :: .int x :: St))) := by
  subst hp
  exact OGo.st (fun _ k => XS.icmpNo X.here K.hx rfl (hb K.hby hd) rfl ((flt (fun r => Int.not_lt.mpr q (Int32.lt_iff_toInt_lt.mp r))).2.2.1) k) hr
theorem o_icmp_gt (X : Stand p l e R s m args below meth c T locs cells slots) (K : OCx p s m meth c Z own nm bytes maxL ret) {x y : Int32} {o : Int} (hd : decode bytes pc = .ok (.if_icmp .gt o, 3)) (pt : Nat) (ho : 0 ≤ (pc : Int) + o) (hp : ((pc : Int) + o).toNat = pt) (pc' : Nat) (hp' : pc + 3 = pc') (h1 : y.toInt < x.toInt → OGo p e below s n0 Q kc ks (T.setTop (mkF m pt Ls St))) (h2 : x.toInt ≤ y.toInt → OGo p e below s n0 Q kc ks (T.setTop (mkF m pc' Ls St))) : OGo p e below s n0 Q kc ks (T.setTop (mkF m pc Ls (.int y :: .int x :: St))) :=
  (Classical.em (y.toInt < x.toInt)).elim (fun q => o_icmp_gt_t X K hd pt ho hp q (h1 q)) (fun q => o_icmp_gt_f X K hd pc' hp' (Int.not_lt.mp q) (h2 (Int.not_lt.mp q)))
theorem o_if_gt_t (X : Stand p l e R s m args below meth c T locs cells slots) (K : OCx p s m meth c Z own nm bytes maxL ret) {x : Int32} {o : Int} (hd : decode bytes pc = .ok (.ifCond .gt o, 3)) (pt : Nat) (ho : 0 ≤ (pc : Int) + o) (hp : ((pc : Int) + o).toNat = pt) (q : 0 < x.toInt) (hr : OGo p e below s n0 Q kc ks (T.setTop (mkF m pt Ls St))) : OGo p e below s n0 Q kc ks (T.setTop (mkF m pc Ls (.int x :: St))) :=
  OGo.st (fun _ k => XS.ifYes X.here K.hx rfl (pc0 := pc) rfl (hb K.hby hd) rfl ((if0 _ _).trans (tlt (Int32.lt_iff_toInt_lt.mpr (show (0 : Int32).toInt < x.toInt from q))).2.2.1) ho hp k) hr
theorem o_if_gt_f (X : Stand p l e R s m args below meth c T locs cells slots) (K : OCx p s m meth c Z own nm bytes maxL ret) {x : Int32} {o : Int} (hd : decode bytes pc = .ok (.ifCond .gt o, 3)) (pc' : Nat) (hp : pc + 3 = pc') (q : x.toInt ≤ 0) (hr : OGo p e below s n0 Q kc ks (T.setTop (mkF m pc' Ls St))) : OGo p e below s n0 Q kc ks (T.setTop (mkF m pc Ls (.int x :: St))) := by
  subst hp
  exact OGo.st (fun _ k => XS.ifNo X.here K.hx rfl (hb K.hby hd) rfl ((if0 _ _).trans (flt (fun r => Int.not_lt.mpr (show x.toInt ≤ (0 : Int32).toInt from q) (Int32.lt_iff_toInt_lt.mp r))).2.2.1) k) hr
theorem o_if_gt (X : Stand p l e R s m args below meth c T locs cells slots) (K : OCx p s m meth c Z own nm bytes maxL ret) {x : Int32} {o : Int} (hd : decode bytes pc = .ok (.ifCond .gt o, 3)) (pt : Nat) (ho : 0 ≤ (pc : Int) + o) (hp : ((pc : Int) + o).toNat = pt) (pc' : Nat) (hp' : pc + 3 = pc') (h1 : 0 < x.toInt → OGo p e below s n0 Q kc ks (T.setTop (mkF m pt Ls St))) (h2 : x.toInt ≤ 0 → OGo p e below s n0 Q kc ks (T.setTop (mkF m pc' Ls St))) : OGo p e below s n0 Q kc ks (T.setTop (mkF m pc Ls (.int x :: St))) :=
  (Classical.em (0 < x.toInt)).elim (fun q => o_if_gt_t X K hd pt ho hp q (h1 q)) (fun q => o_if_gt_f X K hd pc' hp' (Int.not_lt.mp q) (h2 (Int.not_lt.mp q)))
theorem o_icmp_le_t (X : Stand p l e R s m args below meth c T locs cells slots) (K : OCx p s m meth c Z own nm bytes maxL ret) {x y : Int32} {o : Int} (hd : decode bytes pc = .ok (.if_icmp .le o, 3)) (pt : Nat) (ho : 0 ≤ (pc : Int) + o) (hp : ((pc : Int) + o).toNat = pt) (q : x.toInt ≤ y.toInt) (hr : OGo p e below s n0 Q kc ks (T.setTop (mkF m pt Ls St))) : OGo p e below s n0 Q kc ks (T.setTop (mkF m pc Ls (.int y :: .int x :: St))) :=
  OGo.st (fun _ k => XS.icmpYes X.here K.hx rfl (pc0 := pc) rfl (hb K.hby hd) rfl ((flt (fun r => Int.not_lt.mpr q (Int32.lt_iff_toInt_lt.mp r))).2.2.2) ho hp k) hr
theorem o_icmp_le_f (X : Stand p l e R s m args below meth c T locs cells slots) (K : OCx p s m meth c Z own nm bytes maxL ret) {x y : Int32} {o : Int} (hd : decode bytes pc = .ok (.if_icmp .le o, 3)) (pc' : Nat) (hp : pc + 3 = pc') (q : y.toInt < x.toInt) (hr : OGo p e below s n0 Q kc ks (T.setTop (mkF m pc' Ls St))) : OGo p e below s n0 Q kc ks (T.setTop (mkF m pc Ls (.int y :: .int x :: St))) := by
  subst hp
  exact OGo.st (fun _ k => XS.icmpNo X.here K.hx rfl (hb K.hby hd) rfl ((tlt (Int32.lt_iff_toInt_lt.mpr q)).2.2.2) k) hr
theorem o_icmp_le (X : Stand p l e R s m args below meth c T locs cells slots) (K : OCx p s m meth c Z own nm bytes maxL ret) {x y : Int32} {o : Int} (hd : decode bytes pc = .ok (.if_icmp .le o, 3)) (pt : Nat) (ho : 0 ≤ (pc : Int) + o) (hp : ((pc : Int) + o).toNat = pt) (pc' : Nat) (hp' : pc + 3 = pc') (h1 : x.toInt ≤ y.toInt → OGo p e below s n0 Q kc ks (T.setTop (mkF m pt Ls St))) (h2 : y.toInt < x.toInt → OGo p e below s n0 Q kc ks (T.setTop (mkF m pc' Ls St))) : OGo p e below s n0 Q kc ks (T.setTop (mkF m pc Ls (.int y :: .int x :: St))) :=
  (Classical.em (x.toInt ≤ y.toInt)).elim (fun q => o_icmp_le_t X K hd pt ho hp q (h1 q)) (fun q => o_icmp_le_f X K hd pc' hp' (Int.not_le.mp q) (h2 (Int.not_le.mp q)))
theorem o_if_le_t (X : Stand p l e R s m args below meth c T locs cells slots) (K : OCx p s m meth c Z own nm bytes maxL ret) {x : Int32} {o : Int} (hd : decode bytes pc = .ok (.ifCond .le o, 3)) (pt : Nat) (ho : 0 ≤ (pc : Int) + o) (hp : ((pc : Int) + o).toNat = pt) (q : x.toInt ≤ 0) (hr : OGo p e below s n0 Q kc ks (T.setTop (mkF m pt Ls St))) : OGo p e below s n0 Q kc ks (T.setTop (mkF m pc Ls (.int x :: St))) :=
  OGo.st (fun _ k => XS.ifYes X.here K.hx rfl (pc0 := pc) rfl (hb K.hby hd) rfl ((if0 _ _).trans (flt (fun r => Int.not_lt.mpr (show x.toInt ≤ (0 : Int32).toInt from q) (Int32.lt_iff_toInt_lt.mp r))).2.2.2) ho hp k) hr
theorem o_if_le_f (X : Stand p l e R s m args below meth c T locs cells slots) (K : OCx p s m meth c Z own nm bytes maxL ret) {x : Int32} {o : Int} (hd : decode bytes pc = .ok (.ifCond .le o, 3)) (pc' : Nat) (hp : pc + 3 = pc') (q : 0 < x.toInt) (hr : OGo p e below s n0 Q kc ks (T.setTop (mkF m pc' Ls St))) : OGo p e below s n0 Q kc ks (T.setTop (mkF m pc Ls (.int x :: St))) := by
  subst hp
  exact OGo.st (fun _ k => XS.ifNo X.here K.hx rfl (hb K.hby hd) rfl ((if0 _ _).trans (tlt (Int32.lt_iff_toInt_lt.mpr (show (0 : Int32).toInt < x.toInt from q))).2.2.2) k) hr
theorem o_if_le (X : Stand p l e R s m args below meth c T locs cells slots) (K : OCx p s m meth c Z own nm bytes maxL ret) {x : Int32} {o : Int} (hd : decode bytes pc = .ok (.ifCond .le o, 3)) (pt : Nat) (ho : 0 ≤ (pc : Int) + o) (hp : ((pc : Int) + o).toNat = pt) (pc' : Nat) (hp' : pc + 3 = pc') (h1 : x.toInt ≤ 0 → OGo p e below s n0 Q kc ks (T.setTop (mkF m pt Ls St))) (h2 : 0 < x.toInt → OGo p e below s n0 Q kc ks (T.setTop (mkF m pc' Ls St))) : OGo p e below s n0 Q kc ks (T.setTop (mkF m pc Ls (.int x :: St))) :=
  (Classical.em (x.toInt ≤ 0)).elim (fun q => o_if_le_t X K hd pt ho hp q (h1 q)) (fun q => o_if_le_f X K hd pc' hp' (Int.not_le.mp q) (h2 (Int.not_le.mp q)))
theorem o_icmp_eq_t (X : Stand p l e R s m args below meth c T locs cells slots) (K : OCx p s m meth c Z own nm bytes maxL ret) {x y : Int32} {o : Int} (hd : decode bytes pc = .ok (.if_icmp .eq o, 3)) (pt : Nat) (ho : 0 ≤ (pc : Int) + o) (hp : ((pc : Int) + o).toNat = pt) (q : x = y) (hr : OGo p e below s n0 Q kc ks (T.setTop (mkF m pt Ls St))) : OGo p e below s n0 Q kc ks (T.setTop (mkF m pc Ls (.int y :: .int x :: St))) :=
  OGo.st (fun _ k => XS.icmpYes X.here K.hx rfl (pc0 := pc) rfl (hb K.hby hd) rfl ((teq q).1) ho hp k) hr
theorem o_icmp_eq_f (X : Stand p l e R s m args below meth c T locs cells slots) (K : OCx p s m meth c Z own nm bytes maxL ret) {x y : Int32} {o : Int} (hd : decode bytes pc = .ok (.if_icmp .eq o, 3)) (pc' : Nat) (hp : pc + 3 = pc') (q : ¬ x = y) (hr : OGo p e below s n0 Q kc ks (T.setTop (mkF m pc' Ls St))) : OGo p e below s n0 Q kc ks (T.setTop (mkF m pc Ls (.int y :: .int x :: St))) := by
  subst hp
  exact OGo.st (fun _ k => XS.icmpNo X.here K.hx rfl (hb K.hby hd) rfl ((feq q).1) k) hr
theorem o_icmp_eq (X : Stand p l e R s m args below meth c T locs cells slots) (K : OCx p s m meth c Z own nm bytes maxL ret) {x y : Int32} {o : Int} (hd : decode bytes pc = .ok (.if_icmp .eq o, 3)) (pt : Nat) (ho : 0 ≤ (pc : Int) + o) (hp : ((pc : Int) + o).toNat = pt) (pc' : Nat) (hp' : pc + 3 = pc') (h1 : x = y → OGo p e below s n0 Q kc ks (T.setTop (mkF m pt Ls St))) (h2 : ¬ x = y → OGo p e below s n0 Q kc ks (T.setTop (mkF m pc' Ls St))) : OGo p e below s n0 Q kc ks (T.setTop (mkF m pc Ls (.int y :: .int x :: St))) :=
  (Classical.em (x = y)).elim (fun q => o_icmp_eq_t X K hd pt ho hp q (h1 q)) (fun q => o_icmp_eq_f X K hd pc' hp' (id q) (h2 (id q)))
theorem o_if_eq_t (X : Stand p l e R s m args below meth c T locs cells slots) (K : OCx p s m meth c Z own nm bytes maxL ret) {x : Int32} {o : Int} (hd : decode bytes pc = .ok (.ifCond .eq o, 3)) (pt : Nat) (ho : 0 ≤ (pc : Int) + o) (hp : ((pc : Int) + o).toNat = pt) (q : x = 0) (hr : OGo p e below s n0 Q kc ks (T.setTop (mkF m pt Ls St))) : OGo p e below s n0 Q kc ks (T.setTop (mkF m pc Ls (.int x :: St))) :=
  OGo.st (fun _ k => XS.ifYes X.here K.hx rfl (pc0 := pc) rfl (hb K.hby hd) rfl ((if0 _ _).trans (teq (show x = (0 : Int32) from q)).1) ho hp k) hr
theorem o_if_eq_f (X : Stand p l e R s m args below meth c T locs cells slots) (K : OCx p s m meth c Z own nm bytes maxL ret) {x : Int32} {o : Int} (hd : decode bytes pc = .ok (.ifCond .eq o, 3)) (pc' : Nat) (hp : pc + 3 = pc') (q : ¬ x = 0) (hr : OGo p e below s n0 Q kc ks (T.setTop (mkF m pc' Ls St))) : OGo p e below s n0 Q kc ks (T.setTop (mkF m pc Ls (.int x :: St))) := by
  subst hp
  exact OGo.st (fun _ k => XS.ifNo X.here K.hx rfl (hb K.hby hd) rfl ((if0 _ _).trans (feq (show ¬ x = (0 : Int32) from q)).1) k) hr
theorem o_if_eq (X : Stand p l e R s m args below meth c T locs cells slots) (K : OCx p s m meth c Z own nm bytes maxL ret) {x : Int32} {o : Int} (hd : decode bytes pc = .ok (.ifCond .eq o, 3)) (pt : Nat) (ho : 0 ≤ (pc : Int) + o) (hp : ((pc : Int) + o).toNat = pt) (pc' : Nat) (hp' : pc + 3 = pc') (h1 : x = 0 → OGo p e below s n0 Q kc ks (T.setTop (mkF m pt Ls St))) (h2 : ¬ x = 0 → OGo p e below s n0 Q kc ks (T.setTop (mkF m pc' Ls St))) : OGo p e below s n0 Q kc ks (T.setTop (mkF m pc Ls (.int x :: St))) :=
  (Classical.em (x = 0)).elim (fun q => o_if_eq_t X K hd pt ho hp q (h1 q)) (fun q => o_if_eq_f X K hd pc' hp' (id q) (h2 (id q)))
theorem o_icmp_ne_t (X : Stand p l e R s m args below meth c T locs cells slots) (K : OCx p s m meth c Z own nm bytes maxL ret) {x y : Int32} {o : Int} (hd : decode bytes pc = .ok (.if_icmp .ne o, 3)) (pt : Nat) (ho : 0 ≤ (pc : Int) + o) (hp : ((pc : Int) + o).toNat = pt) (q : ¬ x = y) (hr : OGo p e below s n0 Q kc ks (T.setTop (mkF m pt Ls St))) : OGo p e below s n0 Q kc ks (T.setTop (mkF m pc Ls (.int y :: .int x :: St))) :=
  OGo.st (fun _ k => XS.icmpYes X.here K.hx rfl (pc0 := pc) rfl (hb K.hby hd) rfl ((feq q).2) ho hp k) hr
theorem o_icmp_ne_f (X : Stand p l e R s m args below meth c T locs cells slots) (K : OCx p s m meth c Z own nm bytes maxL ret) {x y : Int32} {o : Int} (hd : decode bytes pc = .ok (.if_icmp .ne o, 3)) (pc' : Nat) (hp : pc + 3 = pc') (q : x = y) (hr : OGo p e below s n0 Q kc ks (T.setTop (mkF m pc' Ls St))) : OGo p e below s n0 Q kc ks (T.setTop (mkF m pc Ls (.int y :: .int x :: St))) := by
  subst hp
  exact OGo.st (fun _ k => XS.icmpNo X.here K.hx rfl (hb K.hby hd) rfl ((teq q).2) k) hr
theorem o_icmp_ne (X : Stand p l e R s m args below meth c T locs cells slots) (K : OCx p s m meth c Z own nm bytes maxL ret) {x y : Int32} {o : Int} (hd : decode bytes pc = .ok (.if_icmp .ne o, 3)) (pt : Nat) (ho : 0 ≤ (pc : Int) + o) (hp : ((pc : Int) + o).toNat = pt) (pc' : Nat) (hp' : pc + 3 = pc') (h1 : ¬ x = y → OGo p e below s n0 Q kc ks (T.setTop (mkF m pt Ls St))) (h2 : x = y → OGo p e below s n0 Q kc ks (T.setTop (mkF m pc' Ls St))) : OGo p e below s n0 Q kc ks (T.setTop (mkF m pc Ls (.int y :: .int x :: St))) :=
  (Classical.em (¬ x = y)).elim (fun q => o_icmp_ne_t X K hd pt ho hp q (h1 q)) (fun q => o_icmp_ne_f X K hd pc' hp' (Classical.not_not.mp q) (h2 (Classical.not_not.mp q)))
theorem o_if_ne_t (X : Stand p l e R s m args below meth c T locs cells slots) (K : OCx p s m meth c Z own nm bytes maxL ret) {x : Int32} {o : Int} (hd : decode bytes pc = .ok (.ifCond .ne o, 3)) (pt : Nat) (ho : 0 ≤ (pc : Int) + o) (hp : ((pc : Int) + o).toNat = pt) (q : ¬ x = 0) (hr : OGo p e below s n0 Q kc ks (T.setTop (mkF m pt Ls St))) : OGo p e below s n0 Q kc ks (T.setTop (mkF m pc Ls (.int x :: St))) :=
  OGo.st (fun _ k => XS.ifYes X.here K.hx rfl (pc0 := pc) rfl (hb K.hby hd) rfl ((if0 _ _).trans (feq (show ¬ x = (0 : Int32) from q)).2) ho hp k) hr
theorem o_if_ne_f (X : Stand p l e R s m args below meth c T locs cells slots) (K : OCx p s m meth c Z own nm bytes maxL ret) {x : Int32} {o : Int} (hd : decode bytes pc = .ok (.ifCond .ne o, 3)) (pc' : Nat) (hp : pc + 3 = pc') (q : x = 0) (hr : OGo p e below s n0 Q kc ks (T.setTop (mkF m pc' Ls St))) : OGo p e below s n0 Q kc ks (T.setTop (mkF m pc Ls (.int x :: St))) := by
  subst hp
  exact OGo.st (fun _ k => XS.ifNo X.here K.hx rfl (hb K.hby hd) rfl ((if0 _ _).trans (teq (show x = (0 : Int32) from q)).2) k) hr
theorem o_if_ne (X : Stand p l e R s m args below meth c T locs cells slots) (K : OCx p s m meth c Z own nm bytes maxL ret) {x : Int32} {o : Int} (hd : decode bytes pc = .ok (.ifCond .ne o, 3)) (pt : Nat) (ho : 0 ≤ (pc : Int) + o) (hp : ((pc : Int) + o).toNat = pt) (pc' : Nat) (hp' : pc + 3 = pc') (h1 : ¬ x = 0 → OGo p e below s n0 Q kc ks (T.setTop (mkF m pt Ls St))) (h2 : x = 0 → OGo p e below s n0 Q kc ks (T.setTop (mkF m pc' Ls St))) : OGo p e below s n0 Q kc ks (T.setTop (mkF m pc Ls (.int x :: St))) :=
  (Classical.em (¬ x = 0)).elim (fun q => o_if_ne_t X K hd pt ho hp q (h1 q)) (fun q => o_if_ne_f X K hd pc' hp' (Classical.not_not.mp q) (h2 (Classical.not_not.mp q)))
theorem o_lw_lt {x y : Int64} : (lcmpW x y).toInt < 0 ↔ x.toInt < y.toInt := by
  have q := lw_lt x y
  rw [Int32.lt_iff_toInt_lt, Int64.lt_iff_toInt_lt] at q
  exact q
theorem o_lw_gt {x y : Int64} : 0 < (lcmpW x y).toInt ↔ y.toInt < x.toInt := by
  have q := lw_gt x y
  rw [Int32.lt_iff_toInt_lt, Int64.lt_iff_toInt_lt] at q
  exact q
theorem o_lw_le {x y : Int64} : (lcmpW x y).toInt ≤ 0 ↔ x.toInt ≤ y.toInt := by
  have q := @o_lw_gt x y
  omega
theorem o_lw_ge {x y : Int64} : 0 ≤ (lcmpW x y).toInt ↔ y.toInt ≤ x.toInt := by
  have q := @o_lw_lt x y
  omega
theorem o_lw_eq {x y : Int64} : lcmpW x y = 0 ↔ x = y := lw_eq x y
theorem o_ifnull_t (X : Stand p l e R s m args below meth c T locs cells slots) (K : OCx p s m meth c Z own nm bytes maxL ret) {o : Int} (hd : decode bytes pc = .ok (.ifnull o, 3)) (pt : Nat) (ho : 0 ≤ (pc : Int) + o) (hp : ((pc : Int) + o).toNat = pt) (hr : OGo p e below s n0 Q kc ks (T.setTop (mkF m pt Ls St))) : OGo p e below s n0 Q kc ks (T.setTop (mkF m pc Ls (.null :: St))) :=
  OGo.st (fun _ k => XS.ifnullYes X.here K.hx rfl (pc0 := pc) rfl (hb K.hby hd) rfl ho hp k) hr
theorem o_ifnull_f (X : Stand p l e R s m args below meth c T locs cells slots) (K : OCx p s m meth c Z own nm bytes maxL ret) {o : Int} {b : Addr} (hd : decode bytes pc = .ok (.ifnull o, 3)) (pc' : Nat) (hp : pc + 3 = pc') (hr : OGo p e below s n0 Q kc ks (T.setTop (mkF m pc' Ls St))) : OGo p e below s n0 Q kc ks (T.setTop (mkF m pc Ls (.ref b :: St))) := by
  subst hp
  exact OGo.st (fun _ k => XS.ifnullNo X.here K.hx rfl (hb K.hby hd) rfl k) hr
theorem o_ifnonnull_t (X : Stand p l e R s m args below meth c T locs cells slots) (K : OCx p s m meth c Z own nm bytes maxL ret) {o : Int} {b : Addr} (hd : decode bytes pc = .ok (.ifnonnull o, 3)) (pt : Nat) (ho : 0 ≤ (pc : Int) + o) (hp : ((pc : Int) + o).toNat = pt) (hr : OGo p e below s n0 Q kc ks (T.setTop (mkF m pt Ls St))) : OGo p e below s n0 Q kc ks (T.setTop (mkF m pc Ls (.ref b :: St))) :=
  OGo.st (fun _ k => XS.ifnonnullYes X.here K.hx rfl (pc0 := pc) rfl (hb K.hby hd) rfl ho hp k) hr
theorem o_ifnonnull_f (X : Stand p l e R s m args below meth c T locs cells slots) (K : OCx p s m meth c Z own nm bytes maxL ret) {o : Int} (hd : decode bytes pc = .ok (.ifnonnull o, 3)) (pc' : Nat) (hp : pc + 3 = pc') (hr : OGo p e below s n0 Q kc ks (T.setTop (mkF m pc' Ls St))) : OGo p e below s n0 Q kc ks (T.setTop (mkF m pc Ls (.null :: St))) := by
  subst hp
  exact OGo.st (fun _ k => XS.ifnonnullNo X.here K.hx rfl (hb K.hby hd) rfl k) hr
theorem o_acmp (X : Stand p l e R s m args below meth c T locs cells slots) (K : OCx p s m meth c Z own nm bytes maxL ret) {cd : ACond} {x y : Value} {o : Int} (hd : decode bytes pc = .ok (.if_acmp cd o, 3)) (pc' : Nat) (h1 : x.isRef = true) (h2 : y.isRef = true) (same : Bool) (hq : decide (x = y) = same) (ho : 0 ≤ (pc : Int) + o) (hp : pc' = if acV cd same = true then ((pc : Int) + o).toNat else pc + 3) (hr : OGo p e below s n0 Q kc ks (T.setTop (mkF m pc' Ls St))) : OGo p e below s n0 Q kc ks (T.setTop (mkF m pc Ls (y :: x :: St))) :=
  OGo.st (fun _ k => Jvm.RoadKit.acmp (g := mkF m pc Ls (y :: x :: St)) X K.hx rfl h1 h2 (pc0 := pc) rfl (hb K.hby hd) rfl hq ho hp k) hr
theorem o_leave (X : Stand p l e R s m args below meth c T locs cells slots) (hlk : meth.locks = false) {v : Option Value} (hv : meth.sig.returnType = none → v = none) {S : State} (hc : cells ≤ kc) (hs : slots ≤ ks) (N : Fr n0 locs) (hQ : Q v T.heap)
    (k : ∀ fs, (∀ (f : JFrame) (acts : List Action), f.method = m → f.locked = none → f.entered = [] → (doReturn e (T.setTop f) acts v).1 = T.setFrames fs) → Steps p.tables e below S (T.setFrames fs)) : OGo p e below s n0 Q kc ks S := by
  obtain ⟨fs, hr, hrun, hended, hW, hsame⟩ := X.leave (v := v) hv
  exact ⟨_, _, k fs hr, hrun, hended, v, locs, rfl, ⟨hQ, N⟩, ⟨v, rfl⟩, hW, hsame.mono hc hs⟩
theorem o_ireturn (X : Stand p l e R s m args below meth c T locs cells slots) (K : OCx p s m meth c Z own nm bytes maxL (some .int)) {z : Int32} (hd : decode bytes pc = .ok (.ireturn, 1)) (hc : cells ≤ kc) (hs : slots ≤ ks) (N : Fr n0 locs) (hQ : Q (some (.int z)) T.heap) : OGo p e below s n0 Q kc ks (T.setTop (mkF m pc Ls (.int z :: St))) :=
  o_leave X K.hlk (fun h => by rw [K.hret] at h; cases h) hc hs N hQ (fun fs hr => retI X K.hx K.hret (hb K.hby hd) hr)
theorem o_ireturnN {t : FieldType} (X : Stand p l e R s m args below meth c T locs cells slots) (K : OCx p s m meth c Z own nm bytes maxL (some t)) (ht : t = .boolean ∨ t = .byte ∨ t = .char ∨ t = .short) {z : Int32} (hd : decode bytes pc = .ok (.ireturn, 1)) (hc : cells ≤ kc) (hs : slots ≤ ks) (N : Fr n0 locs) (hQ : Q (some (.int (nar t z))) T.heap) : OGo p e below s n0 Q kc ks (T.setTop (mkF m pc Ls (.int z :: St))) :=
  o_leave X K.hlk (fun h => by rw [K.hret] at h; cases h) hc hs N hQ (fun fs hr => retN X K.hx K.hret ht (hb K.hby hd) hr)
theorem o_lreturn (X : Stand p l e R s m args below meth c T locs cells slots) (K : OCx p s m meth c Z own nm bytes maxL (some .long)) {z : Int64} (hd : decode bytes pc = .ok (.lreturn, 1)) (hc : cells ≤ kc) (hs : slots ≤ ks) (N : Fr n0 locs) (hQ : Q (some (.long z)) T.heap) : OGo p e below s n0 Q kc ks (T.setTop (mkF m pc Ls (.long z :: St))) :=
  o_leave X K.hlk (fun h => by rw [K.hret] at h; cases h) hc hs N hQ (fun fs hr => retOut X K.hx K.hret rfl (Or.inr (Or.inl ⟨rfl, rfl, z, rfl⟩)) (hb K.hby hd) hr)
theorem o_areturn {t : FieldType} (X : Stand p l e R s m args below meth c T locs cells slots) (K : OCx p s m meth c Z own nm bytes maxL (some t)) (ht : t.isReference = true) {z : Value} (hn : narrow t z = z) (hz : z.isRef = true) (hd : decode bytes pc = .ok (.areturn, 1)) (hc : cells ≤ kc) (hs : slots ≤ ks) (N : Fr n0 locs) (hQ : Q (some z) T.heap) : OGo p e below s n0 Q kc ks (T.setTop (mkF m pc Ls (z :: St))) :=
  o_leave X K.hlk (fun h => by rw [K.hret] at h; cases h) hc hs N hQ (fun fs hr => retOut X K.hx K.hret hn (Or.inr (Or.inr (Or.inr (Or.inr ⟨rfl, ht, hz⟩)))) (hb K.hby hd) hr)
theorem o_return (X : Stand p l e R s m args below meth c T locs cells slots) (K : OCx p s m meth c Z own nm bytes maxL none) (hd : decode bytes pc = .ok (.return_, 1)) (hc : cells ≤ kc) (hs : slots ≤ ks) (N : Fr n0 locs) (hQ : Q none T.heap) : OGo p e below s n0 Q kc ks (T.setTop (mkF m pc Ls [])) :=
  o_leave X K.hlk (fun _ => rfl) hc hs N hQ (fun fs hr => X.returnOut K.hx K.hret (hb K.hby hd) hr)
/-- an array: its kind, its length, what each place holds -/
def OAr (Z : State) (h : Heap) (a : Addr) (ty : FieldType) (n : Nat) (f : Nat → Value) : Prop := ∃ c : Cell, Arr Z h a c ty ∧ c.slots.size = n ∧ n < 2147483648 ∧ (∀ j, j < n → c.slots[j]? = some (f j)) ∧ ∀ j, j < n → fits ty (f j) = true
theorem OAr.lt {a : Addr} {ty : FieldType} {n : Nat} {f : Nat → Value} (A : OAr Z h a ty n f) : a < h.size := by obtain ⟨c, A, -⟩ := A; exact A.lt
theorem OAr.len {a : Addr} {ty : FieldType} {n : Nat} {f : Nat → Value} (A : OAr Z h a ty n f) : n < 2147483648 := by obtain ⟨c, -, -, A, -⟩ := A; exact A
theorem OAr.fit {a : Addr} {ty : FieldType} {n : Nat} {f : Nat → Value} (A : OAr Z h a ty n f) {j : Nat} (hj : j < n) : fits ty (f j) = true := by obtain ⟨c, -, -, -, -, A⟩ := A; exact A j hj
theorem OAr.ext {a : Addr} {ty : FieldType} {n : Nat} {f : Nat → Value} (A : OAr Z h a ty n f) (E : Ext h h') : OAr Z h' a ty n f := by obtain ⟨c, A, r⟩ := A; exact ⟨c, A.ext E, r⟩
theorem OAr.other {a b : Addr} {ty : FieldType} {n sl : Nat} {f : Nat → Value} {v : Value} (A : OAr Z h b ty n f) (W : Wr h h' a sl v) (q : b ≠ a) : OAr Z h' b ty n f := by obtain ⟨c, A, r⟩ := A; exact ⟨c, A.other W q, r⟩
theorem OAr.keep {a : Addr} {ty : FieldType} {n : Nat} {f : Nat → Value} {ws : List Addr} (A : OAr Z h a ty n f) (E : Keep h h' ws) (q : a ∉ ws) : OAr Z h' a ty n f := by obtain ⟨c, A, r⟩ := A; exact ⟨c, ⟨E.2.1 _ _ A.1 q, A.2⟩, r⟩
theorem OAr.congr {a : Addr} {ty : FieldType} {n : Nat} {f g : Nat → Value} (A : OAr Z h a ty n f) (q : ∀ j, j < n → f j = g j) : OAr Z h a ty n g := by
  obtain ⟨c, A, r1, r2, r3, r4⟩ := A
  exact ⟨c, A, r1, r2, fun j hj => by rw [← q j hj]; exact r3 j hj, fun j hj => by rw [← q j hj]; exact r4 j hj⟩
theorem OAr.same {a : Addr} {ty : FieldType} {n i : Nat} {f : Nat → Value} {v : Value} (A : OAr Z h a ty n f) (W : Wr h h' a i v) (hv : fits ty v = true) : OAr Z h' a ty n (fun q => if q = i then v else f q) := by
  obtain ⟨c, A, r1, r2, r3, r4⟩ := A
  refine ⟨_, A.same W, by rw [sz_set]; exact r1, r2, fun j hj => ?_, fun j hj => ?_⟩
  · by_cases e : j = i
    · subst e; simp [Cell.setSlot, r1, hj]
    · have e' : ¬ i = j := fun z => e z.symm
      simp [Cell.setSlot, e, e', r3 j hj]
  · by_cases e : j = i
    · simp [e, hv]
    · simp [e, r4 j hj]
theorem o_idx {j : Int32} {i n : Nat} {c : Cell} (hj : j.toInt = (i : Int)) (hi : i < n) (r1 : c.slots.size = n) : ¬ (j < 0 ∨ c.slots.size ≤ j.toNatClampNeg) ∧ j.toNatClampNeg = i := by
  have e : j.toNatClampNeg = i := by rw [← Int32.toNat_toInt, hj]; rfl
  refine ⟨?_, e⟩
  rw [e, r1, Int32.lt_iff_toInt_lt, hj]
  intro q
  rcases q with q | q
  · have : (0 : Int32).toInt = 0 := rfl
    omega
  · omega
theorem o_len {n : Nat} (h : n < 2147483648) : (n.toInt32).toInt = n := by
  have := len_toInt (n := n) (by omega)
  exact this
theorem o_arraylength (X : Stand p l e R s m args below meth c T locs cells slots) (K : OCx p s m meth c Z own nm bytes maxL ret) {a : Addr} {ty : FieldType} {n : Nat} {f : Nat → Value} (hd : decode bytes pc = .ok (.arraylength, 1)) (pc' : Nat) (hp : pc + 1 = pc') (eT : T.heap = h) (A : OAr Z h a ty n f) {v : Int32} (hv : v.toInt = n) (hr : OGo p e below s n0 Q kc ks (T.setTop (mkF m pc' Ls (.int v :: St)))) : OGo p e below s n0 Q kc ks (T.setTop (mkF m pc Ls (.ref a :: St))) := by
  subst hp
  obtain ⟨cl, A, r1, r2, -⟩ := A
  have e1 : cl.slots.size.toInt32 = v := by rw [← Int32.toInt_inj, hv, r1]; exact o_len r2
  refine OGo.st (fun t k => ?_) hr
  refine X.arraylength K.hx (g := mkF m pc Ls (.ref a :: St)) (by rw [eT]; exact A.1) (State.isArrayOf_alike K.hZ.alike A.2.1) rfl rfl (hb K.hby hd) t ?_
  rw [e1]
  exact k
theorem o_iaload (X : Stand p l e R s m args below meth c T locs cells slots) (K : OCx p s m meth c Z own nm bytes maxL ret) {a : Addr} {n i : Nat} {f : Nat → Value} {j : Int32} {v : Value} (hd : decode bytes pc = .ok (.iaload, 1)) (pc' : Nat) (hp : pc + 1 = pc') (eT : T.heap = h) (A : OAr Z h a .int n f) (hj : j.toInt = (i : Int)) (hi : i < n) (hv : f i = v) (hr : OGo p e below s n0 Q kc ks (T.setTop (mkF m pc' Ls (v :: St)))) : OGo p e below s n0 Q kc ks (T.setTop (mkF m pc Ls (.int j :: .ref a :: St))) := by
  subst hp
  obtain ⟨cl, A, r1, r2, r3, -⟩ := A
  obtain ⟨q1, q2⟩ := o_idx (c := cl) hj hi r1
  exact OGo.st (fun t k => X.iaload K.hx (g := mkF m pc Ls (.int j :: .ref a :: St)) (by rw [eT]; exact A.1) (State.isArrayOf_alike K.hZ.alike A.2.1) A.2.2 q1 (by rw [q2, r3 i hi, hv]) rfl rfl (hb K.hby hd) t k) hr
theorem o_laload (X : Stand p l e R s m args below meth c T locs cells slots) (K : OCx p s m meth c Z own nm bytes maxL ret) {a : Addr} {n i : Nat} {f : Nat → Value} {j : Int32} {v : Value} (hd : decode bytes pc = .ok (.laload, 1)) (pc' : Nat) (hp : pc + 1 = pc') (eT : T.heap = h) (A : OAr Z h a .long n f) (hj : j.toInt = (i : Int)) (hi : i < n) (hv : f i = v) (hr : OGo p e below s n0 Q kc ks (T.setTop (mkF m pc' Ls (v :: St)))) : OGo p e below s n0 Q kc ks (T.setTop (mkF m pc Ls (.int j :: .ref a :: St))) := by
  subst hp
  obtain ⟨cl, A, r1, r2, r3, -⟩ := A
  obtain ⟨q1, q2⟩ := o_idx (c := cl) hj hi r1
  exact OGo.st (fun t k => X.laload K.hx (g := mkF m pc Ls (.int j :: .ref a :: St)) (by rw [eT]; exact A.1) (State.isArrayOf_alike K.hZ.alike A.2.1) A.2.2 q1 (by rw [q2, r3 i hi, hv]) rfl rfl (hb K.hby hd) t k) hr
theorem o_caload (X : Stand p l e R s m args below meth c T locs cells slots) (K : OCx p s m meth c Z own nm bytes maxL ret) {a : Addr} {n i : Nat} {f : Nat → Value} {j : Int32} {v : Value} (hd : decode bytes pc = .ok (.caload, 1)) (pc' : Nat) (hp : pc + 1 = pc') (eT : T.heap = h) (A : OAr Z h a .char n f) (hj : j.toInt = (i : Int)) (hi : i < n) (hv : f i = v) (hr : OGo p e below s n0 Q kc ks (T.setTop (mkF m pc' Ls (v :: St)))) : OGo p e below s n0 Q kc ks (T.setTop (mkF m pc Ls (.int j :: .ref a :: St))) := by
  subst hp
  obtain ⟨cl, A, r1, r2, r3, -⟩ := A
  obtain ⟨q1, q2⟩ := o_idx (c := cl) hj hi r1
  exact OGo.st (fun t k => X.caload K.hx (g := mkF m pc Ls (.int j :: .ref a :: St)) (by rw [eT]; exact A.1) (State.isArrayOf_alike K.hZ.alike A.2.1) A.2.2 q1 (by rw [q2, r3 i hi, hv]) rfl rfl (hb K.hby hd) t k) hr
theorem o_saload (X : Stand p l e R s m args below meth c T locs cells slots) (K : OCx p s m meth c Z own nm bytes maxL ret) {a : Addr} {n i : Nat} {f : Nat → Value} {j : Int32} {v : Value} (hd : decode bytes pc = .ok (.saload, 1)) (pc' : Nat) (hp : pc + 1 = pc') (eT : T.heap = h) (A : OAr Z h a .short n f) (hj : j.toInt = (i : Int)) (hi : i < n) (hv : f i = v) (hr : OGo p e below s n0 Q kc ks (T.setTop (mkF m pc' Ls (v :: St)))) : OGo p e below s n0 Q kc ks (T.setTop (mkF m pc Ls (.int j :: .ref a :: St))) := by
  subst hp
  obtain ⟨cl, A, r1, r2, r3, -⟩ := A
  obtain ⟨q1, q2⟩ := o_idx (c := cl) hj hi r1
  exact OGo.st (fun t k => X.saload K.hx (g := mkF m pc Ls (.int j :: .ref a :: St)) (by rw [eT]; exact A.1) (State.isArrayOf_alike K.hZ.alike A.2.1) A.2.2 q1 (by rw [q2, r3 i hi, hv]) rfl rfl (hb K.hby hd) t k) hr
theorem o_baload (X : Stand p l e R s m args below meth c T locs cells slots) (K : OCx p s m meth c Z own nm bytes maxL ret) {a : Addr} {n i : Nat} {f : Nat → Value} {j : Int32} {v : Value} (hd : decode bytes pc = .ok (.baload, 1)) (pc' : Nat) (hp : pc + 1 = pc') (eT : T.heap = h) (A : OAr Z h a .byte n f) (hj : j.toInt = (i : Int)) (hi : i < n) (hv : f i = v) (hr : OGo p e below s n0 Q kc ks (T.setTop (mkF m pc' Ls (v :: St)))) : OGo p e below s n0 Q kc ks (T.setTop (mkF m pc Ls (.int j :: .ref a :: St))) := by
  subst hp
  obtain ⟨cl, A, r1, r2, r3, -⟩ := A
  obtain ⟨q1, q2⟩ := o_idx (c := cl) hj hi r1
  exact OGo.st (fun t k => X.baloadBytes K.hx (g := mkF m pc Ls (.int j :: .ref a :: St)) (by rw [eT]; exact A.1) (State.isArrayOf_alike K.hZ.alike A.2.1) A.2.2 q1 (by rw [q2, r3 i hi, hv]) rfl rfl (hb K.hby hd) t k) hr
theorem o_zaload (X : Stand p l e R s m args below meth c T locs cells slots) (K : OCx p s m meth c Z own nm bytes maxL ret) {a : Addr} {n i : Nat} {f : Nat → Value} {j : Int32} {v : Value} (hd : decode bytes pc = .ok (.baload, 1)) (pc' : Nat) (hp : pc + 1 = pc') (eT : T.heap = h) (A : OAr Z h a .boolean n f) (hj : j.toInt = (i : Int)) (hi : i < n) (hv : f i = v) (hr : OGo p e below s n0 Q kc ks (T.setTop (mkF m pc' Ls (v :: St)))) : OGo p e below s n0 Q kc ks (T.setTop (mkF m pc Ls (.int j :: .ref a :: St))) := by
  subst hp
  obtain ⟨cl, A, r1, r2, r3, -⟩ := A
  obtain ⟨q1, q2⟩ := o_idx (c := cl) hj hi r1
  exact OGo.st (fun t k => X.baloadBooleans K.hx (g := mkF m pc Ls (.int j :: .ref a :: St)) (by rw [eT]; exact A.1) (State.isArrayOf_alike K.hZ.alike A.2.1) A.2.2 q1 (by rw [q2, r3 i hi, hv]) rfl rfl (hb K.hby hd) t k) hr
theorem o_aaload (X : Stand p l e R s m args below meth c T locs cells slots) (K : OCx p s m meth c Z own nm bytes maxL ret) {a : Addr} {ty : FieldType} {n i : Nat} {f : Nat → Value} {j : Int32} {v : Value} (hd : decode bytes pc = .ok (.aaload, 1)) (pc' : Nat) (hp : pc + 1 = pc') (eT : T.heap = h) (A : OAr Z h a ty n f) (hty : ty.isReference = true) (hj : j.toInt = (i : Int)) (hi : i < n) (hv : f i = v) (hr : OGo p e below s n0 Q kc ks (T.setTop (mkF m pc' Ls (v :: St)))) : OGo p e below s n0 Q kc ks (T.setTop (mkF m pc Ls (.int j :: .ref a :: St))) := by
  subst hp
  obtain ⟨cl, A, r1, r2, r3, -⟩ := A
  obtain ⟨q1, q2⟩ := o_idx (c := cl) hj hi r1
  exact OGo.st (fun t k => X.aaload K.hx (g := mkF m pc Ls (.int j :: .ref a :: St)) (by rw [eT]; exact A.1) (State.isArrayOf_alike K.hZ.alike A.2.1) hty A.2.2 q1 (by rw [q2, r3 i hi, hv]) rfl rfl (hb K.hby hd) t k) hr
theorem o_bastore (X : Stand p l e R s m args below meth c T locs cells slots) (K : OCx p s m meth c Z own nm bytes maxL ret) {a : Addr} {n i : Nat} {f : Nat → Value} {j : Int32} {x x' : Int32} (hd : decode bytes pc = .ok (.bastore, 1)) (pc' : Nat) (hp : pc + 1 = pc') (eT : T.heap = h) (A : OAr Z h a .byte n f) (hj : j.toInt = (i : Int)) (hi : i < n) (hv : nar .byte x = x') (N : Fr n0 locs) (ge : n0 ≤ a)
    (hr : ∀ T' h' locs', Stand p l e R s m args below meth c T' locs' cells slots → T'.heap = h' → Wr h h' a i (.int x') → OAr Z h' a .byte n (fun q => if q = i then (.int x') else f q) → Fr n0 locs' → OGo p e below s n0 Q kc ks (T'.setTop (mkF m pc' Ls St))) : OGo p e below s n0 Q kc ks (T.setTop (mkF m pc Ls (.int x :: .int j :: .ref a :: St))) := by
  subst hp hv
  obtain ⟨cl, B, r1, r2, r3, -⟩ := id A
  obtain ⟨q1, q2⟩ := o_idx (c := cl) hj hi r1
  obtain ⟨T', h', X', e', W', st'⟩ := stB X K.hx K.hZ eT B q1 (g := mkF m pc Ls (.int x :: .int j :: .ref a :: St)) rfl rfl (hb K.hby hd)
  have N' := Fr.snoc X' N ge
  rw [q2] at W'
  exact OGo.st st' (hr T' h' _ X' e' W' (A.same W' (fits_nar_byte x)) N')
theorem o_castore (X : Stand p l e R s m args below meth c T locs cells slots) (K : OCx p s m meth c Z own nm bytes maxL ret) {a : Addr} {n i : Nat} {f : Nat → Value} {j : Int32} {x x' : Int32} (hd : decode bytes pc = .ok (.castore, 1)) (pc' : Nat) (hp : pc + 1 = pc') (eT : T.heap = h) (A : OAr Z h a .char n f) (hj : j.toInt = (i : Int)) (hi : i < n) (hv : nar .char x = x') (N : Fr n0 locs) (ge : n0 ≤ a)
    (hr : ∀ T' h' locs', Stand p l e R s m args below meth c T' locs' cells slots → T'.heap = h' → Wr h h' a i (.int x') → OAr Z h' a .char n (fun q => if q = i then (.int x') else f q) → Fr n0 locs' → OGo p e below s n0 Q kc ks (T'.setTop (mkF m pc' Ls St))) : OGo p e below s n0 Q kc ks (T.setTop (mkF m pc Ls (.int x :: .int j :: .ref a :: St))) := by
  subst hp hv
  obtain ⟨cl, B, r1, r2, r3, -⟩ := id A
  obtain ⟨q1, q2⟩ := o_idx (c := cl) hj hi r1
  obtain ⟨T', h', X', e', W', st'⟩ := stC X K.hx K.hZ eT B q1 (g := mkF m pc Ls (.int x :: .int j :: .ref a :: St)) rfl rfl (hb K.hby hd)
  have N' := Fr.snoc X' N ge
  rw [q2] at W'
  exact OGo.st st' (hr T' h' _ X' e' W' (A.same W' (fits_nar_char x)) N')
theorem o_sastore (X : Stand p l e R s m args below meth c T locs cells slots) (K : OCx p s m meth c Z own nm bytes maxL ret) {a : Addr} {n i : Nat} {f : Nat → Value} {j : Int32} {x x' : Int32} (hd : decode bytes pc = .ok (.sastore, 1)) (pc' : Nat) (hp : pc + 1 = pc') (eT : T.heap = h) (A : OAr Z h a .short n f) (hj : j.toInt = (i : Int)) (hi : i < n) (hv : nar .short x = x') (N : Fr n0 locs) (ge : n0 ≤ a)
    (hr : ∀ T' h' locs', Stand p l e R s m args below meth c T' locs' cells slots → T'.heap = h' → Wr h h' a i (.int x') → OAr Z h' a .short n (fun q => if q = i then (.int x') else f q) → Fr n0 locs' → OGo p e below s n0 Q kc ks (T'.setTop (mkF m pc' Ls St))) : OGo p e below s n0 Q kc ks (T.setTop (mkF m pc Ls (.int x :: .int j :: .ref a :: St))) := by
  subst hp hv
  obtain ⟨cl, B, r1, r2, r3, -⟩ := id A
  obtain ⟨q1, q2⟩ := o_idx (c := cl) hj hi r1
  obtain ⟨T', h', X', e', W', st'⟩ := stS X K.hx K.hZ eT B q1 (g := mkF m pc Ls (.int x :: .int j :: .ref a :: St)) rfl rfl (hb K.hby hd)
  have N' := Fr.snoc X' N ge
  rw [q2] at W'
  exact OGo.st st' (hr T' h' _ X' e' W' (A.same W' (fits_nar_short x)) N')
theorem o_zastore (X : Stand p l e R s m args below meth c T locs cells slots) (K : OCx p s m meth c Z own nm bytes maxL ret) {a : Addr} {n i : Nat} {f : Nat → Value} {j : Int32} {x x' : Int32} (hd : decode bytes pc = .ok (.bastore, 1)) (pc' : Nat) (hp : pc + 1 = pc') (eT : T.heap = h) (A : OAr Z h a .boolean n f) (hj : j.toInt = (i : Int)) (hi : i < n) (hv : nar .boolean x = x') (N : Fr n0 locs) (ge : n0 ≤ a)
    (hr : ∀ T' h' locs', Stand p l e R s m args below meth c T' locs' cells slots → T'.heap = h' → Wr h h' a i (.int x') → OAr Z h' a .boolean n (fun q => if q = i then (.int x') else f q) → Fr n0 locs' → OGo p e below s n0 Q kc ks (T'.setTop (mkF m pc' Ls St))) : OGo p e below s n0 Q kc ks (T.setTop (mkF m pc Ls (.int x :: .int j :: .ref a :: St))) := by
  subst hp hv
  obtain ⟨cl, B, r1, r2, r3, -⟩ := id A
  obtain ⟨q1, q2⟩ := o_idx (c := cl) hj hi r1
  obtain ⟨T', h', X', e', W', st'⟩ := stZ X K.hx K.hZ eT B q1 (g := mkF m pc Ls (.int x :: .int j :: .ref a :: St)) rfl rfl (hb K.hby hd)
  have N' := Fr.snoc X' N ge
  rw [q2] at W'
  exact OGo.st st' (hr T' h' _ X' e' W' (A.same W' (fits_nar_bool x)) N')
theorem o_iastore (X : Stand p l e R s m args below meth c T locs cells slots) (K : OCx p s m meth c Z own nm bytes maxL ret) {a : Addr} {n i : Nat} {f : Nat → Value} {j : Int32} {x x' : Int32} (hd : decode bytes pc = .ok (.iastore, 1)) (pc' : Nat) (hp : pc + 1 = pc') (eT : T.heap = h) (A : OAr Z h a .int n f) (hj : j.toInt = (i : Int)) (hi : i < n) (hv : x = x') (N : Fr n0 locs) (ge : n0 ≤ a)
    (hr : ∀ T' h' locs', Stand p l e R s m args below meth c T' locs' cells slots → T'.heap = h' → Wr h h' a i (.int x') → OAr Z h' a .int n (fun q => if q = i then (.int x') else f q) → Fr n0 locs' → OGo p e below s n0 Q kc ks (T'.setTop (mkF m pc' Ls St))) : OGo p e below s n0 Q kc ks (T.setTop (mkF m pc Ls (.int x :: .int j :: .ref a :: St))) := by
  subst hp hv
  obtain ⟨cl, B, r1, r2, r3, -⟩ := id A
  obtain ⟨q1, q2⟩ := o_idx (c := cl) hj hi r1
  obtain ⟨T', h', X', e', W', st'⟩ := stI X K.hx K.hZ eT B q1 (g := mkF m pc Ls (.int x :: .int j :: .ref a :: St)) rfl rfl (hb K.hby hd)
  have N' := Fr.snoc X' N ge
  rw [q2] at W'
  exact OGo.st st' (hr T' h' _ X' e' W' (A.same W' (rfl)) N')
theorem o_lastore (X : Stand p l e R s m args below meth c T locs cells slots) (K : OCx p s m meth c Z own nm bytes maxL ret) {a : Addr} {n i : Nat} {f : Nat → Value} {j : Int32} {x x' : Int64} (hd : decode bytes pc = .ok (.lastore, 1)) (pc' : Nat) (hp : pc + 1 = pc') (eT : T.heap = h) (A : OAr Z h a .long n f) (hj : j.toInt = (i : Int)) (hi : i < n) (hv : x = x') (N : Fr n0 locs) (ge : n0 ≤ a)
    (hr : ∀ T' h' locs', Stand p l e R s m args below meth c T' locs' cells slots → T'.heap = h' → Wr h h' a i (.long x') → OAr Z h' a .long n (fun q => if q = i then (.long x') else f q) → Fr n0 locs' → OGo p e below s n0 Q kc ks (T'.setTop (mkF m pc' Ls St))) : OGo p e below s n0 Q kc ks (T.setTop (mkF m pc Ls (.long x :: .int j :: .ref a :: St))) := by
  subst hp hv
  obtain ⟨cl, B, r1, r2, r3, -⟩ := id A
  obtain ⟨q1, q2⟩ := o_idx (c := cl) hj hi r1
  obtain ⟨T', h', X', e', W', st'⟩ := stJ X K.hx K.hZ eT B q1 (g := mkF m pc Ls (.long x :: .int j :: .ref a :: St)) rfl rfl (hb K.hby hd)
  have N' := Fr.snoc X' N ge
  rw [q2] at W'
  exact OGo.st st' (hr T' h' _ X' e' W' (A.same W' (rfl)) N')
theorem o_newarray (X : Stand p l e R s m args below meth c T locs cells slots) (K : OCx p s m meth c Z own nm bytes maxL ret) {aty : ArrayType} {z : Int32} {n : Nat} (hd : decode bytes pc = .ok (.newarray aty, 2)) (pc' : Nat) (hp : pc + 2 = pc') (w : (Jvm.Cond.arrayClass (newarray.typeOf aty)).before a0 Z = true) (eT : T.heap = h) (hz : z.toInt = (n : Int)) (cap : Nat) (hcap : n ≤ cap) (hb8 : cap * 8 ≤ 536870912) (hc : cells + 1 ≤ R.cells) (hl : slots + cap ≤ R.slots)
    (hdv : fits (newarray.typeOf aty) (defaultValue (newarray.typeOf aty)) = true)
    (hr : ∀ T' h' a, a = h.size → Stand p l e R s m args below meth c T' locs (cells + 1) (slots + cap) → T'.heap = h' → Ext h h' → OAr Z h' a (newarray.typeOf aty) n (fun _ => defaultValue (newarray.typeOf aty)) → OGo p e below s n0 Q kc ks (T'.setTop (mkF m pc' Ls (.ref a :: St)))) : OGo p e below s n0 Q kc ks (T.setTop (mkF m pc Ls (.int z :: St))) := by
  subst hp
  have e1 : z.toNatClampNeg = n := by rw [← Int32.toNat_toInt, hz]; rfl
  have hneg : ¬ z < 0 := by
    rw [Int32.lt_iff_toInt_lt, hz]
    have : (0 : Int32).toInt = 0 := rfl
    omega
  obtain ⟨T', h', cA, X', e', E', A', st'⟩ := newP X K.hx K.hZ w eT (g := mkF m pc Ls (.int z :: St)) rfl (hb K.hby hd) rfl hneg (cap := cap) (by omega) hb8 hc hl
  refine OGo.st st' (hr T' h' _ rfl X' e' E' ⟨_, A', (sz_new _ _ _).trans e1, ?_, fun j hj => ?_, fun j _ => hdv⟩)
  · have := (rng32 z).2
    omega
  · simp [newA, e1, hj]
theorem o_anewarray (X : Stand p l e R s m args below meth c T locs cells slots) (K : OCx p s m meth c Z own nm bytes maxL ret) {C : String} {index : Nat} {z : Int32} {n : Nat} (hd : decode bytes pc = .ok (.anewarray index, 3)) (pc' : Nat) (hp : pc + 3 = pc') (w1 : (Jvm.Cond.classLink own index C).before a0 Z = true) (w2 : (Jvm.Cond.arrayOver (.object C)).before a0 Z = true) (eT : T.heap = h) (hz : z.toInt = (n : Int)) (cap : Nat) (hcap : n ≤ cap) (hb8 : cap * 8 ≤ 536870912) (hc : cells + 1 ≤ R.cells) (hl : slots + cap ≤ R.slots)
    (hr : ∀ T' h' a, a = h.size → Stand p l e R s m args below meth c T' locs (cells + 1) (slots + cap) → T'.heap = h' → Ext h h' → OAr Z h' a (.object C) n (fun _ => .null) → (∃ cl : Cell, h'[a]? = some cl ∧ Ovr Z cl.cls C) → OGo p e below s n0 Q kc ks (T'.setTop (mkF m pc' Ls (.ref a :: St)))) : OGo p e below s n0 Q kc ks (T.setTop (mkF m pc Ls (.int z :: St))) := by
  subst hp
  have e1 : z.toNatClampNeg = n := by rw [← Int32.toNat_toInt, hz]; rfl
  have hneg : ¬ z < 0 := by
    rw [Int32.lt_iff_toInt_lt, hz]
    have : (0 : Int32).toInt = 0 := rfl
    omega
  obtain ⟨T', h', cA, X', e', E', A', O', st'⟩ := newR X K.hx K.hZ K.hown w1 w2 eT (g := mkF m pc Ls (.int z :: St)) rfl (hb K.hby hd) rfl hneg (cap := cap) (by omega) hb8 hc hl
  refine OGo.st st' (hr T' h' _ rfl X' e' E' ⟨_, A', (sz_new _ _ _).trans e1, ?_, fun j hj => ?_, fun j _ => rfl⟩ ⟨_, A'.1, O'⟩)
  · have := (rng32 z).2
    omega
  · simp [newA, e1, hj, defaultValue]
theorem o_new (X : Stand p l e R s m args below meth c T locs cells slots) (K : OCx p s m meth c Z own nm bytes maxL ret) {C : String} {index k : Nat} (hd : decode bytes pc = .ok (.new index, 3)) (pc' : Nat) (hp : pc + 3 = pc') (w : (Jvm.Cond.classLink own index C).before a0 Z = true) (wi : (Jvm.Cond.instantiable C k).before a0 Z = true) (wz : (Jvm.Cond.initialized C).before a0 Z = true) (eT : T.heap = h) (hc : cells + 1 ≤ R.cells) (hl : slots + k ≤ R.slots)
    (hr : ∀ T' h' a, a = h.size → Stand p l e R s m args below meth c T' locs (cells + 1) (slots + k) → T'.heap = h' → Ext h h' → Exa Z h' a C → (∀ {O nm d : String} {ty : FieldType}, Laid Z a0 C O nm d → parseFieldDescriptor d = some ty → Fld Z h' a O nm d (defaultValue ty)) → OGo p e below s n0 Q kc ks (T'.setTop (mkF m pc' Ls (.ref a :: St)))) : OGo p e below s n0 Q kc ks (T.setTop (mkF m pc Ls St)) := by
  subst hp
  obtain ⟨T', h', X', e', E', A', D', -, st'⟩ := newO X K.hx K.hZ K.hown w wi wz eT (g := mkF m pc Ls St) rfl (hb K.hby hd) hc hl
  exact OGo.st st' (hr T' h' _ rfl X' e' E' A' D')
theorem o_initO (X : Stand p l e R s m args below meth c T locs cells slots) (K : OCx p s m meth c Z own nm bytes maxL ret) {idx : Nat} {a : Addr} (hd : decode bytes pc = .ok (.invokespecial idx, 3)) (pc' : Nat) (hp : pc + 3 = pc') (w1 : (Jvm.Cond.methodLink own idx Lib.objectInit).before a0 Z = true) (w2 : (Jvm.Cond.instanceMethod Lib.objectInit).before a0 Z = true) (w3 : (Jvm.Cond.code Lib.objectInit ⟨#[0xb1]⟩ 1 none).before a0 Z = true) (eT : T.heap = h) (hsz : Ls.size = maxL)
    (hf : 1 ≤ R.frames) (W : Nat) (hW : (St.map fun v => v.category).sum ≤ W) (hl : W + 12 ≤ R.locals) (hr : ∀ T', Stand p l e R s m args below meth c T' locs cells slots → T'.heap = h → OGo p e below s n0 Q kc ks (T'.setTop (mkF m pc' Ls St))) : OGo p e below s n0 Q kc ks (T.setTop (mkF m pc Ls (.ref a :: St))) := by
  subst hp
  obtain ⟨T', X', e', st'⟩ := initO X K.hx K.hZ K.hown w1 w2 w3 eT (g := mkF m pc Ls (.ref a :: St)) rfl (by rw [K.hml]; exact hsz) rfl (hb K.hby hd) hf (W := W) (by show 2 * 0 + _ ≤ _; omega) hl
  exact OGo.st st' (hr T' X' e')
theorem o_getfield (X : Stand p l e R s m args below meth c T locs cells slots) (K : OCx p s m meth c Z own nm bytes maxL ret) {index : Nat} {R0 O n d host : String} {a : Addr} {v : Value} (hd : decode bytes pc = .ok (.getfield index, 3)) (pc' : Nat) (hp : pc + 3 = pc') (w : (Jvm.Cond.fieldLink own index R0 n d).before a0 Z = true ∨ (Jvm.Cond.fieldLinkNest own index R0 n d host).before a0 Z = true) (via : Via Z R0 O n d) (eT : T.heap = h) (F : Fld Z h a O n d v)
    (hr : ∀ T', Stand p l e R s m args below meth c T' locs cells slots → T'.heap = h → OGo p e below s n0 Q kc ks (T'.setTop (mkF m pc' Ls (v :: St)))) : OGo p e below s n0 Q kc ks (T.setTop (mkF m pc Ls (.ref a :: St))) := by
  subst hp
  obtain ⟨T', X', e', st'⟩ := getF X K.hx K.hZ K.hown w via eT F (g := mkF m pc Ls (.ref a :: St)) rfl rfl (hb K.hby hd)
  exact OGo.st st' (hr T' X' e')
theorem o_getstatic (X : Stand p l e R s m args below meth c T locs cells slots) (K : OCx p s m meth c Z own nm bytes maxL ret) {index : Nat} {R0 O n d host : String} {v : Value} (hd : decode bytes pc = .ok (.getstatic index, 3)) (pc' : Nat) (hp : pc + 3 = pc') (w : (Jvm.Cond.fieldLink own index R0 n d).before a0 Z = true ∨ (Jvm.Cond.fieldLinkNest own index R0 n d host).before a0 Z = true) (via : Via Z R0 O n d) (eT : T.heap = h) (F : Sta Z h O n d v)
    (hr : ∀ T', Stand p l e R s m args below meth c T' locs cells slots → T'.heap = h → OGo p e below s n0 Q kc ks (T'.setTop (mkF m pc' Ls (v :: St)))) : OGo p e below s n0 Q kc ks (T.setTop (mkF m pc Ls St)) := by
  subst hp
  obtain ⟨T', X', e', st'⟩ := getS2 X K.hx K.hZ K.hown w via eT F (g := mkF m pc Ls St) rfl (hb K.hby hd)
  exact OGo.st st' (hr T' X' e')
theorem o_putfield (X : Stand p l e R s m args below meth c T locs cells slots) (K : OCx p s m meth c Z own nm bytes maxL ret) {index kk : Nat} {R0 O n d host C : String} {a : Addr} {v old : Value} {ty : FieldType} (hd : decode bytes pc = .ok (.putfield index, 3)) (pc' : Nat) (hp : pc + 3 = pc') (w : (Jvm.Cond.fieldLink own index R0 n d).before a0 Z = true ∨ (Jvm.Cond.fieldLinkNest own index R0 n d host).before a0 Z = true) (via : Via Z R0 O n d) (eT : T.heap = h) (F : Fld Z h a O n d old) (E : Exa Z h a C)
    (L : (Jvm.Cond.lays C O n d).before a0 Z = true ∨ ((Jvm.Cond.laysFinal C O n d).before a0 Z = true ∧ own = O ∧ nm = "<init>")) (wi : (Jvm.Cond.instantiable C kk).before a0 Z = true) (hty : parseFieldDescriptor d = some ty) (hn : narrow ty v = v) (hf : fits ty v = true) (N : Fr n0 locs) (ge : n0 ≤ a)
    (hr : ∀ T' h' locs', Stand p l e R s m args below meth c T' locs' cells slots → T'.heap = h' → Wr h h' a (Jvm.RoadKit.slotOf Z O n d) v → Fr n0 locs' → OGo p e below s n0 Q kc ks (T'.setTop (mkF m pc' Ls St))) : OGo p e below s n0 Q kc ks (T.setTop (mkF m pc Ls (v :: .ref a :: St))) := by
  subst hp
  obtain ⟨T', h', X', e', W', st'⟩ := putF X K.hx K.hZ K.hown w via eT F E (L.imp id fun q => ⟨q.1, q.2.1, K.hnm.trans q.2.2⟩) wi hty hn hf (g := mkF m pc Ls (v :: .ref a :: St)) rfl rfl (hb K.hby hd)
  exact OGo.st st' (hr T' h' _ X' e' W' (Fr.snoc X' N ge))
theorem o_putfieldN (X : Stand p l e R s m args below meth c T locs cells slots) (K : OCx p s m meth c Z own nm bytes maxL ret) {index kk : Nat} {R0 O n d C : String} {a : Addr} {v v' old : Value} {ty : FieldType} (hd : decode bytes pc = .ok (.putfield index, 3)) (pc' : Nat) (hp : pc + 3 = pc') (w : (Jvm.Cond.fieldLink own index R0 n d).before a0 Z = true) (via : Via Z R0 O n d) (eT : T.heap = h) (F : Fld Z h a O n d old) (E : Exa Z h a C)
    (L : (Jvm.Cond.lays C O n d).before a0 Z = true ∨ ((Jvm.Cond.laysFinal C O n d).before a0 Z = true ∧ own = O ∧ nm = "<init>")) (wi : (Jvm.Cond.instantiable C kk).before a0 Z = true) (hty : parseFieldDescriptor d = some ty) (hn : narrow ty v = v') (hf : fits ty v' = true) (N : Fr n0 locs) (ge : n0 ≤ a)
    (hr : ∀ T' h' locs', Stand p l e R s m args below meth c T' locs' cells slots → T'.heap = h' → Wr h h' a (Jvm.RoadKit.slotOf Z O n d) v' → Fr n0 locs' → OGo p e below s n0 Q kc ks (T'.setTop (mkF m pc' Ls St))) : OGo p e below s n0 Q kc ks (T.setTop (mkF m pc Ls (v :: .ref a :: St))) := by
  subst hp
  obtain ⟨T', h', X', e', W', st'⟩ := putFN X K.hx K.hZ K.hown w via eT F E (L.imp id fun q => ⟨q.1, q.2.1, K.hnm.trans q.2.2⟩) wi hty hn hf (g := mkF m pc Ls (v :: .ref a :: St)) rfl rfl (hb K.hby hd)
  exact OGo.st st' (hr T' h' _ X' e' W' (Fr.snoc X' N ge))
theorem o_invokestatic (X : Stand p l e R s m args below meth c T locs cells slots) (K : OCx p s m meth c Z own nm bytes maxL ret) {index : Nat} {y : MethodName} {bytes' : ByteArray} {maxL' : Nat} {ret' : Option FieldType} {rm : Room} {Q' : Option Value → Heap → Prop} (hd : decode bytes pc = .ok (.invokestatic index, 3)) (pc' : Nat) (hp : pc + 3 = pc') (w1 : (Jvm.Cond.methodLink own index y).before a0 Z = true) (w2 : (Jvm.Cond.static y).before a0 Z = true) (w3 : (Jvm.Cond.initialized y.cls).before a0 Z = true) (w4 : (Jvm.Cond.code y bytes' maxL' ret').before a0 Z = true) (hy : y.cls ≠ "java/lang/invoke/MethodHandle" ∧ y.cls ≠ "java/lang/invoke/VarHandle")
    (argsL rest : List Value) (hst : St = argsL.reverse ++ rest) (con : OCon l Z n0 y bytes' maxL' ret' rm argsL.toArray h Q') (eT : T.heap = h) (hsz : Ls.size = maxL) (hlen : ∀ sig, parseMethodDescriptor y.desc = some sig → argsL.length = sig.parameters.length) (hf : rm.frames + 1 ≤ R.frames) (W : Nat) (hW : (rest.map fun v => v.category).sum ≤ W) (hlo : W + (maxL' + 11) + rm.locals ≤ R.locals) (hc : cells + rm.cells ≤ R.cells) (hs : slots + rm.slots ≤ R.slots) (N : Fr n0 locs)
    (hr : ∀ v T' h' locs', Stand p l e R s m args below meth c T' locs' (cells + rm.cells) (slots + rm.slots) → T'.heap = h' → Q' v h' → Fr n0 locs' → OGo p e below s n0 Q kc ks (T'.setTop (mkF m pc' Ls (v.toList ++ rest)))) : OGo p e below s n0 Q kc ks (T.setTop (mkF m pc Ls St)) := by
  subst hp hst
  obtain ⟨v, vm₁, ⟨T', L', k', n'⟩, -, X', ⟨Lc, ⟨hQ, hF⟩, l1, y1, z1⟩, st⟩ := Jvm.LawKit.callS X K.hx K.hown (mvT K.hZ w1) (mvT K.hZ w2) (mvT K.hZ w3) (mvT K.hZ w4) hy (backOf (W := W) (Q := fun v h L => Q' v h ∧ Fr n0 L) (con []) K.hZ w4 w3 hf hlo) (g := mkF m pc Ls (argsL.reverse ++ rest)) rfl (by rw [K.hml]; exact hsz) (argsL := argsL) (rest := rest) hlen rfl (by show 2 * 0 + _ ≤ _; omega) (hb K.hby hd) (fun _ _ => ⟨rfl, eT, hc, hs⟩)
  dsimp only [Pt.U, Pt.locs, Pt.cells, Pt.slots] at X' l1 y1 z1 st hQ
  subst l1 y1 z1
  exact OGo.st st (hr v T' _ _ X' rfl hQ (Fr.app N hF))
theorem o_invokespecial (X : Stand p l e R s m args below meth c T locs cells slots) (K : OCx p s m meth c Z own nm bytes maxL ret) {index : Nat} {y : MethodName} {bytes' : ByteArray} {maxL' : Nat} {rm : Room} {Q' : Option Value → Heap → Prop} {a : Addr} (hd : decode bytes pc = .ok (.invokespecial index, 3)) (pc' : Nat) (hp : pc + 3 = pc') (hy1 : y.name = "<init>") (w1 : (Jvm.Cond.methodLink own index y).before a0 Z = true) (w2 : (Jvm.Cond.instanceMethod y).before a0 Z = true) (w3 : (Jvm.Cond.initialized y.cls).before a0 Z = true) (w4 : (Jvm.Cond.code y bytes' maxL' none).before a0 Z = true) (hy : y.cls ≠ "java/lang/invoke/MethodHandle" ∧ y.cls ≠ "java/lang/invoke/VarHandle")
    (argsL rest : List Value) (hst : St = argsL.reverse ++ .ref a :: rest) (con : OCon l Z n0 y bytes' maxL' none rm (.ref a :: argsL).toArray h Q') (eT : T.heap = h) (hsz : Ls.size = maxL) (hlen : ∀ sig, parseMethodDescriptor y.desc = some sig → argsL.length = sig.parameters.length) (hf : rm.frames + 1 ≤ R.frames) (W : Nat) (hW : (rest.map fun v => v.category).sum ≤ W) (hlo : W + (maxL' + 11) + rm.locals ≤ R.locals) (hc : cells + rm.cells ≤ R.cells) (hs : slots + rm.slots ≤ R.slots) (N : Fr n0 locs)
    (hr : ∀ v T' h' locs', Stand p l e R s m args below meth c T' locs' (cells + rm.cells) (slots + rm.slots) → T'.heap = h' → Q' v h' → Fr n0 locs' → OGo p e below s n0 Q kc ks (T'.setTop (mkF m pc' Ls (v.toList ++ rest)))) : OGo p e below s n0 Q kc ks (T.setTop (mkF m pc Ls St)) := by
  subst hp hst
  obtain ⟨v, vm₁, ⟨T', L', k', n'⟩, -, X', ⟨Lc, ⟨hQ, hF⟩, l1, y1, z1⟩, st⟩ := X.specialBack K.hx hy1 K.hown (mvT K.hZ w1) (mvT K.hZ w2) (mvT K.hZ w4) hy (backOf (W := W) (Q := fun v h L => Q' v h ∧ Fr n0 L) (con []) K.hZ w4 w3 hf hlo) (g := mkF m pc Ls (argsL.reverse ++ .ref a :: rest)) rfl (by rw [K.hml]; exact hsz) (Steps.refl _) (argsL := argsL) (rest := rest) hlen rfl (by show 2 * 0 + _ ≤ _; omega) (hb K.hby hd) (fun _ _ => ⟨rfl, eT, hc, hs⟩)
  dsimp only [Pt.U, Pt.locs, Pt.cells, Pt.slots] at X' l1 y1 z1 st hQ
  subst l1 y1 z1
  exact OGo.st (fun t k => st.trans k) (hr v T' _ _ X' rfl hQ (Fr.app N hF))
theorem o_invokevirtual (X : Stand p l e R s m args below meth c T locs cells slots) (K : OCx p s m meth c Z own nm bytes maxL ret) {index : Nat} {y : MethodName} {bytes' : ByteArray} {maxL' : Nat} {ret' : Option FieldType} {rm : Room} {Q' : Option Value → Heap → Prop} {C : String} {a : Addr} (hd : decode bytes pc = .ok (.invokevirtual index, 3)) (pc' : Nat) (hp : pc + 3 = pc') (w1 : (Jvm.Cond.methodLink own index y).before a0 Z = true) (w2 : (Jvm.Cond.declares y).before a0 Z = true) (wsel : (Jvm.Cond.selects C y y).before a0 Z = true) (w5 : (Jvm.Cond.instanceMethod y).before a0 Z = true) (w3 : (Jvm.Cond.initialized y.cls).before a0 Z = true) (w4 : (Jvm.Cond.code y bytes' maxL' ret').before a0 Z = true) (hy : y.cls ≠ "java/lang/invoke/MethodHandle" ∧ y.cls ≠ "java/lang/invoke/VarHandle")
    (E : Exa Z h a C) (argsL rest : List Value) (hst : St = argsL.reverse ++ .ref a :: rest) (con : OCon l Z n0 y bytes' maxL' ret' rm (.ref a :: argsL).toArray h Q') (eT : T.heap = h) (hsz : Ls.size = maxL) (hlen : ∀ sig, parseMethodDescriptor y.desc = some sig → argsL.length = sig.parameters.length) (hf : rm.frames + 1 ≤ R.frames) (W : Nat) (hW : (rest.map fun v => v.category).sum ≤ W) (hlo : W + (maxL' + 11) + rm.locals ≤ R.locals) (hc : cells + rm.cells ≤ R.cells) (hs : slots + rm.slots ≤ R.slots) (N : Fr n0 locs)
    (hr : ∀ v T' h' locs', Stand p l e R s m args below meth c T' locs' (cells + rm.cells) (slots + rm.slots) → T'.heap = h' → Q' v h' → Fr n0 locs' → OGo p e below s n0 Q kc ks (T'.setTop (mkF m pc' Ls (v.toList ++ rest)))) : OGo p e below s n0 Q kc ks (T.setTop (mkF m pc Ls St)) := by
  subst hp hst
  obtain ⟨cq, kq, qa, qb, qc⟩ := isOf K.hZ eT E
  obtain ⟨v, vm₁, ⟨T', L', k', n'⟩, -, X', ⟨Lc, ⟨hQ, hF⟩, l1, y1, z1⟩, st⟩ := X.virtualBack K.hx K.hown (mvT K.hZ w1) (mvT K.hZ w2) (notFace_of_selects (args := #[]) (mvT K.hZ wsel)) (mvT K.hZ wsel) (mvT K.hZ w5) hy (backOf (W := W) (Q := fun v h L => Q' v h ∧ Fr n0 L) (con []) K.hZ w4 w3 hf hlo) qa qc (g := mkF m pc Ls (argsL.reverse ++ .ref a :: rest)) rfl (by rw [K.hml]; exact hsz) (Steps.refl _) (argsL := argsL) (rest := rest) hlen rfl (by show 2 * 0 + _ ≤ _; omega) (hb K.hby hd) (fun _ _ => ⟨rfl, eT, hc, hs⟩)
  dsimp only [Pt.U, Pt.locs, Pt.cells, Pt.slots] at X' l1 y1 z1 st hQ
  subst l1 y1 z1
  exact OGo.st (fun t k => st.trans k) (hr v T' _ _ X' rfl hQ (Fr.app N hF))
theorem o_nb (x : Int32) : nar .byte (x.toInt8.toInt32) = x.toInt8.toInt32 := by
  show x.toInt8.toInt32.toInt8.toInt32 = _
  simp
theorem o_join {α : Type} (F : α → State) (P : α → Prop) {S : State} (hgo : (∀ b, P b → OGo p e below s n0 Q kc ks (F b)) → OGo p e below s n0 Q kc ks S) (hrest : ∀ b, P b → OGo p e below s n0 Q kc ks (F b)) : OGo p e below s n0 Q kc ks S := hgo hrest
theorem o_ind {α : Type} (F : α → State) (Inv : Nat → α → Prop) (hz : ∀ a, Inv 0 a → OGo p e below s n0 Q kc ks (F a)) (hs : ∀ d, (∀ a, Inv d a → OGo p e below s n0 Q kc ks (F a)) → ∀ a, Inv (d + 1) a → OGo p e below s n0 Q kc ks (F a)) (d : Nat) (a : α) (i : Inv d a) : OGo p e below s n0 Q kc ks (F a) := by
  induction d generalizing a with
  | zero => exact hz a i
  | succ d ih => exact hs d ih a i
theorem o_sta_keep {C n d : String} {v : Value} {ws : List Addr} (F : Sta Z h C n d v) (k : Keep h h' ws) (q : ∀ x ∈ ws, ∀ cell : Cell, h[x]? = some cell → cell.vm.isStatics = false) : Sta Z h' C n d v := by
  obtain ⟨cf, i, kk, f, st, cell, h1, h2, h3, h4, h5, h6, h7⟩ := F
  refine ⟨cf, i, kk, f, st, cell, h1, h2, h3, h4, k.2.1 _ _ h5 (fun z => ?_), h6, h7⟩
  rw [q st z cell h5] at h6
  cases h6
abbrev OW (Z : State) (a0 : Array Value) : Prop := ∀ d ∈ tables_1, d.before a0 Z = true
end Own
set_option maxRecDepth 65536
theorem w_0 {Z : State} {a0 : Array Value} (hw : OW Z a0) : (Jvm.Cond.constant "com/example/dhole/dhole/read/Utf8SequenceLengthPinLaw" (17 : Nat) (2147483647 : Int32)).before a0 Z = true := hw _ (List.mem_of_getElem? (i := 0) rfl)
theorem w_1 {Z : State} {a0 : Array Value} (hw : OW Z a0) : (Jvm.Cond.arrayClass Jvm.ClassFile.FieldType.byte).before a0 Z = true := hw _ (List.mem_of_getElem? (i := 1) rfl)
theorem w_2 {Z : State} {a0 : Array Value} (hw : OW Z a0) : (Jvm.Cond.methodLink "com/example/dhole/dhole/read/Utf8SequenceLengthPinLaw" (18 : Nat) ({ cls := "com/example/dhole/dhole/read/Utf8", name := "sequenceLength", desc := "([BII)I" } : Jvm.MethodName)).before a0 Z = true := hw _ (List.mem_of_getElem? (i := 2) rfl)
theorem w_3 {Z : State} {a0 : Array Value} (hw : OW Z a0) : (Jvm.Cond.static ({ cls := "com/example/dhole/dhole/read/Utf8", name := "sequenceLength", desc := "([BII)I" } : Jvm.MethodName)).before a0 Z = true := hw _ (List.mem_of_getElem? (i := 3) rfl)
theorem w_4 {Z : State} {a0 : Array Value} (hw : OW Z a0) : (Jvm.Cond.initialized "com/example/dhole/dhole/read/Utf8").before a0 Z = true := hw _ (List.mem_of_getElem? (i := 4) rfl)
theorem w_5 {Z : State} {a0 : Array Value} (hw : OW Z a0) : (Jvm.Cond.code ({ cls := "com/example/dhole/dhole/read/Utf8", name := "sequenceLength", desc := "([BII)I" } : Jvm.MethodName) prog_19_method_3_code (8 : Nat) (Option.some Jvm.ClassFile.FieldType.int)).before a0 Z = true := hw _ (List.mem_of_getElem? (i := 5) rfl)
theorem w_6 {Z : State} {a0 : Array Value} (hw : OW Z a0) : (Jvm.Cond.methodLink "com/example/dhole/dhole/read/Utf8SequenceLengthPinLaw" (24 : Nat) ({ cls := "com/example/dhole/dhole/read/Utf8SequenceLengthPinLaw", name := "expected", desc := "(IIIII)I" } : Jvm.MethodName)).before a0 Z = true := hw _ (List.mem_of_getElem? (i := 6) rfl)
theorem w_7 {Z : State} {a0 : Array Value} (hw : OW Z a0) : (Jvm.Cond.static ({ cls := "com/example/dhole/dhole/read/Utf8SequenceLengthPinLaw", name := "expected", desc := "(IIIII)I" } : Jvm.MethodName)).before a0 Z = true := hw _ (List.mem_of_getElem? (i := 7) rfl)
theorem w_8 {Z : State} {a0 : Array Value} (hw : OW Z a0) : (Jvm.Cond.initialized "com/example/dhole/dhole/read/Utf8SequenceLengthPinLaw").before a0 Z = true := hw _ (List.mem_of_getElem? (i := 8) rfl)
theorem w_9 {Z : State} {a0 : Array Value} (hw : OW Z a0) : (Jvm.Cond.code ({ cls := "com/example/dhole/dhole/read/Utf8SequenceLengthPinLaw", name := "expected", desc := "(IIIII)I" } : Jvm.MethodName) method_3_code (7 : Nat) (Option.some Jvm.ClassFile.FieldType.int)).before a0 Z = true := hw _ (List.mem_of_getElem? (i := 9) rfl)
theorem w_10 {Z : State} {a0 : Array Value} (hw : OW Z a0) : (Jvm.Cond.methodLink "com/example/dhole/dhole/read/Utf8" (27 : Nat) ({ cls := "com/example/dhole/dhole/read/Utf8", name := "within", desc := "(BII)Z" } : Jvm.MethodName)).before a0 Z = true := hw _ (List.mem_of_getElem? (i := 10) rfl)
theorem w_11 {Z : State} {a0 : Array Value} (hw : OW Z a0) : (Jvm.Cond.static ({ cls := "com/example/dhole/dhole/read/Utf8", name := "within", desc := "(BII)Z" } : Jvm.MethodName)).before a0 Z = true := hw _ (List.mem_of_getElem? (i := 11) rfl)
theorem w_12 {Z : State} {a0 : Array Value} (hw : OW Z a0) : (Jvm.Cond.code ({ cls := "com/example/dhole/dhole/read/Utf8", name := "within", desc := "(BII)Z" } : Jvm.MethodName) prog_19_method_4_code (4 : Nat) (Option.some Jvm.ClassFile.FieldType.boolean)).before a0 Z = true := hw _ (List.mem_of_getElem? (i := 12) rfl)
theorem w_13 {Z : State} {a0 : Array Value} (hw : OW Z a0) : (Jvm.Cond.methodLink "com/example/dhole/dhole/read/Utf8SequenceLengthPinLaw" (7 : Nat) ({ cls := "com/example/dhole/dhole/read/Utf8SequenceLengthPinLaw", name := "cont", desc := "(I)Z" } : Jvm.MethodName)).before a0 Z = true := hw _ (List.mem_of_getElem? (i := 13) rfl)
theorem w_14 {Z : State} {a0 : Array Value} (hw : OW Z a0) : (Jvm.Cond.static ({ cls := "com/example/dhole/dhole/read/Utf8SequenceLengthPinLaw", name := "cont", desc := "(I)Z" } : Jvm.MethodName)).before a0 Z = true := hw _ (List.mem_of_getElem? (i := 14) rfl)
theorem w_15 {Z : State} {a0 : Array Value} (hw : OW Z a0) : (Jvm.Cond.code ({ cls := "com/example/dhole/dhole/read/Utf8SequenceLengthPinLaw", name := "cont", desc := "(I)Z" } : Jvm.MethodName) method_2_code (1 : Nat) (Option.some Jvm.ClassFile.FieldType.boolean)).before a0 Z = true := hw _ (List.mem_of_getElem? (i := 15) rfl)
theorem w_16 {Z : State} {a0 : Array Value} (hw : OW Z a0) : (Jvm.Cond.constant "com/example/dhole/dhole/read/Utf8SequenceLengthPinLaw" (13 : Nat) (55296 : Int32)).before a0 Z = true := hw _ (List.mem_of_getElem? (i := 16) rfl)
theorem w_17 {Z : State} {a0 : Array Value} (hw : OW Z a0) : (Jvm.Cond.constant "com/example/dhole/dhole/read/Utf8SequenceLengthPinLaw" (14 : Nat) (57343 : Int32)).before a0 Z = true := hw _ (List.mem_of_getElem? (i := 17) rfl)
theorem w_18 {Z : State} {a0 : Array Value} (hw : OW Z a0) : (Jvm.Cond.constant "com/example/dhole/dhole/read/Utf8SequenceLengthPinLaw" (15 : Nat) (65536 : Int32)).before a0 Z = true := hw _ (List.mem_of_getElem? (i := 18) rfl)
theorem w_19 {Z : State} {a0 : Array Value} (hw : OW Z a0) : (Jvm.Cond.constant "com/example/dhole/dhole/read/Utf8SequenceLengthPinLaw" (16 : Nat) (1114111 : Int32)).before a0 Z = true := hw _ (List.mem_of_getElem? (i := 19) rfl)
def own_len (b0 b1 b2 b3 av : Int) : Int :=
  if 194 ≤ b0 ∧ b0 ≤ 223 ∧ 2 ≤ av ∧ 128 ≤ b1 ∧ b1 ≤ 191 then 2
  else if 224 ≤ b0 ∧ b0 ≤ 239 ∧ 3 ≤ av ∧ 128 ≤ b1 ∧ b1 ≤ 191 ∧ (b0 = 224 → 160 ≤ b1) ∧ (b0 = 237 → b1 ≤ 159) ∧ 128 ≤ b2 ∧ b2 ≤ 191 then 3
  else if 240 ≤ b0 ∧ b0 ≤ 244 ∧ 4 ≤ av ∧ 128 ≤ b1 ∧ b1 ≤ 191 ∧ (b0 = 240 → 144 ≤ b1) ∧ (b0 = 244 → b1 ≤ 143) ∧ 128 ≤ b2 ∧ b2 ≤ 191 ∧ 128 ≤ b3 ∧ b3 ≤ 191 then 4 else 0
theorem own_cont256 : ∀ k : Fin 256, (Int32.ofInt (k.1 : Int) &&& 192 = 128 ↔ (128 ≤ k.1 ∧ k.1 ≤ 191)) := by decide +kernel
theorem own_cont {b : Int32} (h : 0 ≤ b.toInt ∧ b.toInt ≤ 255) : b &&& 192 = 128 ↔ (128 ≤ b.toInt ∧ b.toInt ≤ 191) := by
  have q := own_cont256 ⟨b.toInt.toNat, by omega⟩
  have e : Int32.ofInt ((b.toInt.toNat : Nat) : Int) = b := by
    rw [show ((b.toInt.toNat : Nat) : Int) = b.toInt from by omega]
    exact Int32.ofInt_toInt b
  simp only [e] at q
  rw [q]
  omega
theorem own_b8_256 : ∀ k : Fin 256, ((Int32.ofInt (k.1 : Int)).toInt8.toInt32 &&& 255) = Int32.ofInt (k.1 : Int) := by decide +kernel
theorem own_b8 {b : Int32} (h : 0 ≤ b.toInt ∧ b.toInt ≤ 255) : b.toInt8.toInt32 &&& 255 = b := by
  have q := own_b8_256 ⟨b.toInt.toNat, by omega⟩
  have e : Int32.ofInt ((b.toInt.toNat : Nat) : Int) = b := by
    rw [show ((b.toInt.toNat : Nat) : Int) = b.toInt from by omega]
    exact Int32.ofInt_toInt b
  simpa only [e] using q
theorem own_m63 (b : Int32) : (b &&& 63).toInt = b.toInt % 64 := c_mask b 63 6 (by decide) (by decide)
theorem own_m31 (b : Int32) : (b &&& 31).toInt = b.toInt % 32 := c_mask b 31 5 (by decide) (by decide)
theorem own_m15 (b : Int32) : (b &&& 15).toInt = b.toInt % 16 := c_mask b 15 4 (by decide) (by decide)
theorem own_m7 (b : Int32) : (b &&& 7).toInt = b.toInt % 8 := c_mask b 7 3 (by decide) (by decide)
theorem own_m255 (b : Int32) : (b &&& 255).toInt = b.toInt % 256 := c_mask b 255 8 (by decide) (by decide)
theorem own_sh6 {x : Int32} (h : 0 ≤ x.toInt ∧ x.toInt < 4096) : (x <<< ((6 : Int32) &&& 31)).toInt = x.toInt * 64 := by
  have q := c_ishl x 6 6 (by decide)
  have r := rng32 (x <<< ((6 : Int32) &&& 31))
  omega
theorem own_sh12 {x : Int32} (h : 0 ≤ x.toInt ∧ x.toInt < 4096) : (x <<< ((12 : Int32) &&& 31)).toInt = x.toInt * 4096 := by
  have q := c_ishl x 12 12 (by decide)
  have r := rng32 (x <<< ((12 : Int32) &&& 31))
  omega
theorem own_sh18 {x : Int32} (h : 0 ≤ x.toInt ∧ x.toInt < 4096) : (x <<< ((18 : Int32) &&& 31)).toInt = x.toInt * 262144 := by
  have q := c_ishl x 18 18 (by decide)
  have r := rng32 (x <<< ((18 : Int32) &&& 31))
  omega
theorem own_or {x y : Int32} (k : Nat) (hk : k ≤ 31) (P : Int) (hP : P = (2 ^ k : Nat)) (h1 : x.toInt % P = 0) (h2 : 0 ≤ y.toInt) (h3 : y.toInt < P) (h4 : 0 ≤ x.toInt) (h5 : x.toInt + y.toInt < 2147483648) : (x ||| y).toInt = x.toInt + y.toInt := by
  have q := c_or x y k hk P hP h1 h2 h3
  have r := rng32 (x ||| y)
  omega
theorem own_cp2 (b0 b1 : Int32) : (((b0 &&& 31) <<< ((6 : Int32) &&& 31)) ||| (b1 &&& 63)).toInt = b0.toInt % 32 * 64 + b1.toInt % 64 := by
  have q1 := own_m31 b0
  have q2 := own_m63 b1
  have q3 := own_sh6 (x := b0 &&& 31) (by omega)
  rw [own_or 6 (by decide) 64 (by decide) (by omega) (by omega) (by omega) (by omega) (by omega)]
  omega
theorem own_cp3 (b0 b1 b2 : Int32) : ((((b0 &&& 15) <<< ((12 : Int32) &&& 31)) ||| ((b1 &&& 63) <<< ((6 : Int32) &&& 31))) ||| (b2 &&& 63)).toInt = b0.toInt % 16 * 4096 + b1.toInt % 64 * 64 + b2.toInt % 64 := by
  have q1 := own_m15 b0
  have q2 := own_m63 b1
  have q3 := own_m63 b2
  have q4 := own_sh12 (x := b0 &&& 15) (by omega)
  have q5 := own_sh6 (x := b1 &&& 63) (by omega)
  have q6 := own_or (x := (b0 &&& 15) <<< ((12 : Int32) &&& 31)) (y := (b1 &&& 63) <<< ((6 : Int32) &&& 31)) 12 (by decide) 4096 (by decide) (by omega) (by omega) (by omega) (by omega) (by omega)
  rw [own_or 6 (by decide) 64 (by decide) (by omega) (by omega) (by omega) (by omega) (by omega)]
  omega
theorem own_cp4 (b0 b1 b2 b3 : Int32) : (((((b0 &&& 7) <<< ((18 : Int32) &&& 31)) ||| ((b1 &&& 63) <<< ((12 : Int32) &&& 31))) ||| ((b2 &&& 63) <<< ((6 : Int32) &&& 31))) ||| (b3 &&& 63)).toInt = b0.toInt % 8 * 262144 + b1.toInt % 64 * 4096 + b2.toInt % 64 * 64 + b3.toInt % 64 := by
  have q1 := own_m7 b0
  have q2 := own_m63 b1
  have q3 := own_m63 b2
  have q3' := own_m63 b3
  have q4 := own_sh18 (x := b0 &&& 7) (by omega)
  have q5 := own_sh12 (x := b1 &&& 63) (by omega)
  have q5' := own_sh6 (x := b2 &&& 63) (by omega)
  have q6 := own_or (x := (b0 &&& 7) <<< ((18 : Int32) &&& 31)) (y := (b1 &&& 63) <<< ((12 : Int32) &&& 31)) 18 (by decide) 262144 (by decide) (by omega) (by omega) (by omega) (by omega) (by omega)
  have q7 := own_or (x := (b0 &&& 7) <<< ((18 : Int32) &&& 31) ||| (b1 &&& 63) <<< ((12 : Int32) &&& 31)) (y := (b2 &&& 63) <<< ((6 : Int32) &&& 31)) 12 (by decide) 4096 (by decide) (by omega) (by omega) (by omega) (by omega) (by omega)
  rw [own_or 6 (by decide) 64 (by decide) (by omega) (by omega) (by omega) (by omega) (by omega)]
  omega
def own_gg (i : Nat) (f x0 x1 x2 x3 : Int32) (j : Nat) : Int32 := if j = i + 3 then x3 else if j = i + 2 then x2 else if j = i + 1 then x1 else if j = i then x0 else f
theorem own_g0 (i : Nat) (f x0 x1 x2 x3 : Int32) : own_gg i f x0 x1 x2 x3 i = x0 := by simp [own_gg]
theorem own_g1 (i : Nat) (f x0 x1 x2 x3 : Int32) : own_gg i f x0 x1 x2 x3 (i + 1) = x1 := by simp [own_gg]
theorem own_g2 (i : Nat) (f x0 x1 x2 x3 : Int32) : own_gg i f x0 x1 x2 x3 (i + 2) = x2 := by simp [own_gg]
theorem own_g3 (i : Nat) (f x0 x1 x2 x3 : Int32) : own_gg i f x0 x1 x2 x3 (i + 3) = x3 := by simp [own_gg]
theorem d3_0 : decode prog_19_method_4_code 0 = .ok (.iload_n 0, 1) := by decide +kernel
theorem d3_1 : decode prog_19_method_4_code 1 = .ok (.sipush 255, 3) := by decide +kernel
theorem d3_4 : decode prog_19_method_4_code 4 = .ok (.iand, 1) := by decide +kernel
theorem d3_5 : decode prog_19_method_4_code 5 = .ok (.istore_n 3, 1) := by decide +kernel
theorem d3_6 : decode prog_19_method_4_code 6 = .ok (.iload_n 3, 1) := by decide +kernel
theorem d3_7 : decode prog_19_method_4_code 7 = .ok (.iload_n 1, 1) := by decide +kernel
theorem d3_8 : decode prog_19_method_4_code 8 = .ok (.if_icmp .lt 12, 3) := by decide +kernel
theorem d3_20 : decode prog_19_method_4_code 20 = .ok (.iconst 0, 1) := by decide +kernel
theorem d3_21 : decode prog_19_method_4_code 21 = .ok (.ireturn, 1) := by decide +kernel
theorem d3_11 : decode prog_19_method_4_code 11 = .ok (.iload_n 3, 1) := by decide +kernel
theorem d3_12 : decode prog_19_method_4_code 12 = .ok (.iload_n 2, 1) := by decide +kernel
theorem d3_13 : decode prog_19_method_4_code 13 = .ok (.if_icmp .gt 7, 3) := by decide +kernel
theorem d3_16 : decode prog_19_method_4_code 16 = .ok (.iconst 1, 1) := by decide +kernel
theorem d3_17 : decode prog_19_method_4_code 17 = .ok (.goto 4, 3) := by decide +kernel
theorem pn_3 : plainFor (⟨"com/example/dhole/dhole/read/Utf8", "within", "(BII)Z"⟩ : MethodName) = true := plainFor_of_name (by first | (simp [plainName, overriddenIn]; done) | decide +kernel)
set_option maxHeartbeats 4000000 in
theorem c_within (l : Launch) (Z : State) (a0 : Array Value) (hw : OW Z a0) (n0 : Nat) (z lo hi : Int32) (h0 : Heap) (Z0 : n0 ≤ h0.size) :
    OCon l Z n0 (⟨"com/example/dhole/dhole/read/Utf8", "within", "(BII)Z"⟩ : MethodName) prog_19_method_4_code 4 (some .boolean) ({ frames := 0, cells := 0, slots := 0, locals := 0 } : Room) #[(.int z), (.int lo), (.int hi)] h0 (fun v h => ∃ r : Int32, v = some (.int r) ∧ ((r = 1 ∧ lo.toInt ≤ (z &&& 255).toInt ∧ (z &&& 255).toInt ≤ hi.toInt) ∨ (r = 0 ∧ ¬ (lo.toInt ≤ (z &&& 255).toInt ∧ (z &&& 255).toInt ≤ hi.toInt))) ∧ h = h0) := by
  refine OCon.of (Ls := #[.val (.int z), .val (.int lo), .val (.int hi), .unset]) pn_3 rfl rfl (fun m => by first | (simp [entryFrame, mkF, argsToLocals, Value.category]; done) | rfl) ?_
  intro p e s m below meth c T0 X0 K e0
  have N0 := Fr.nil n0
  refine o_iloadN X0 K d3_0 1 rfl rfl ?_
  refine o_sipush X0 K (255 : Int32) d3_1 4 rfl rfl ?_
  refine o_iand X0 K d3_4 5 rfl ?_
  obtain ⟨u, h_u⟩ : ∃ z_ : Int32, z_ = (z &&& (255 : Int32)) := ⟨_, rfl⟩
  refine o_istoreN X0 K d3_5 6 rfl #[.val (.int z), .val (.int lo), .val (.int hi), .val (.int u)] h_u.symm rfl ?_
  refine o_iloadN X0 K d3_6 7 rfl rfl ?_
  refine o_iloadN X0 K d3_7 8 rfl rfl ?_
  refine o_icmp_lt X0 K d3_8 20 (by decide) (by decide) 11 rfl (fun hc8 => ?_) (fun hc8 => ?_)
  · refine o_iconst X0 K (0 : Int32) d3_20 21 rfl rfl ?_
    refine o_ireturnN X0 K (by decide) d3_21 (by decide) (by decide) N0 ?_
    subst h_u
    exact ⟨_, rfl, Or.inr ⟨rfl, by omega⟩, e0⟩
  · refine o_iloadN X0 K d3_11 12 rfl rfl ?_
    refine o_iloadN X0 K d3_12 13 rfl rfl ?_
    refine o_icmp_gt X0 K d3_13 20 (by decide) (by decide) 16 rfl (fun hc13 => ?_) (fun hc13 => ?_)
    · refine o_iconst X0 K (0 : Int32) d3_20 21 rfl rfl ?_
      refine o_ireturnN X0 K (by decide) d3_21 (by decide) (by decide) N0 ?_
      subst h_u
      exact ⟨_, rfl, Or.inr ⟨rfl, by omega⟩, e0⟩
    · refine o_iconst X0 K (1 : Int32) d3_16 17 rfl rfl ?_
      refine o_goto X0 K d3_17 21 (by decide) (by decide) ?_
      refine o_ireturnN X0 K (by decide) d3_21 (by decide) (by decide) N0 ?_
      subst h_u
      exact ⟨_, rfl, Or.inl ⟨rfl, by omega⟩, e0⟩
theorem d4_0 : decode method_2_code 0 = .ok (.iload_n 0, 1) := by decide +kernel
theorem d4_1 : decode method_2_code 1 = .ok (.sipush 192, 3) := by decide +kernel
theorem d4_4 : decode method_2_code 4 = .ok (.iand, 1) := by decide +kernel
theorem d4_5 : decode method_2_code 5 = .ok (.sipush 128, 3) := by decide +kernel
theorem d4_8 : decode method_2_code 8 = .ok (.if_icmp .ne 7, 3) := by decide +kernel
theorem d4_15 : decode method_2_code 15 = .ok (.iconst 0, 1) := by decide +kernel
theorem d4_16 : decode method_2_code 16 = .ok (.ireturn, 1) := by decide +kernel
theorem d4_11 : decode method_2_code 11 = .ok (.iconst 1, 1) := by decide +kernel
theorem d4_12 : decode method_2_code 12 = .ok (.goto 4, 3) := by decide +kernel
theorem pn_4 : plainFor (⟨"com/example/dhole/dhole/read/Utf8SequenceLengthPinLaw", "cont", "(I)Z"⟩ : MethodName) = true := plainFor_of_name (by first | (simp [plainName, overriddenIn]; done) | decide +kernel)
set_option maxHeartbeats 4000000 in
theorem c_cont (l : Launch) (Z : State) (a0 : Array Value) (hw : OW Z a0) (n0 : Nat) (z : Int32) (h0 : Heap) (Z0 : n0 ≤ h0.size) :
    OCon l Z n0 (⟨"com/example/dhole/dhole/read/Utf8SequenceLengthPinLaw", "cont", "(I)Z"⟩ : MethodName) method_2_code 1 (some .boolean) ({ frames := 0, cells := 0, slots := 0, locals := 0 } : Room) #[(.int z)] h0 (fun v h => ∃ r : Int32, v = some (.int r) ∧ ((r = 1 ∧ z &&& 192 = 128) ∨ (r = 0 ∧ ¬ z &&& 192 = 128)) ∧ h = h0) := by
  refine OCon.of (Ls := #[.val (.int z)]) pn_4 rfl rfl (fun m => by first | (simp [entryFrame, mkF, argsToLocals, Value.category]; done) | rfl) ?_
  intro p e s m below meth c T0 X0 K e0
  have N0 := Fr.nil n0
  refine o_iloadN X0 K d4_0 1 rfl rfl ?_
  refine o_sipush X0 K (192 : Int32) d4_1 4 rfl rfl ?_
  refine o_iand X0 K d4_4 5 rfl ?_
  refine o_sipush X0 K (128 : Int32) d4_5 8 rfl rfl ?_
  refine o_icmp_ne X0 K d4_8 15 (by decide) (by decide) 11 rfl (fun hc8 => ?_) (fun hc8 => ?_)
  · refine o_iconst X0 K (0 : Int32) d4_15 16 rfl rfl ?_
    refine o_ireturnN X0 K (by decide) d4_16 (by decide) (by decide) N0 ?_
    exact ⟨_, rfl, Or.inr ⟨rfl, hc8⟩, e0⟩
  · refine o_iconst X0 K (1 : Int32) d4_11 12 rfl rfl ?_
    refine o_goto X0 K d4_12 16 (by decide) (by decide) ?_
    refine o_ireturnN X0 K (by decide) d4_16 (by decide) (by decide) N0 ?_
    exact ⟨_, rfl, Or.inl ⟨rfl, hc8⟩, e0⟩
theorem d1_0 : decode prog_19_method_3_code 0 = .ok (.aload_n 0, 1) := by decide +kernel
theorem d1_1 : decode prog_19_method_3_code 1 = .ok (.iload_n 1, 1) := by decide +kernel
theorem d1_2 : decode prog_19_method_3_code 2 = .ok (.baload, 1) := by decide +kernel
theorem d1_3 : decode prog_19_method_3_code 3 = .ok (.sipush 255, 3) := by decide +kernel
theorem d1_6 : decode prog_19_method_3_code 6 = .ok (.iand, 1) := by decide +kernel
theorem d1_7 : decode prog_19_method_3_code 7 = .ok (.istore_n 3, 1) := by decide +kernel
theorem d1_8 : decode prog_19_method_3_code 8 = .ok (.sipush 128, 3) := by decide +kernel
theorem d1_11 : decode prog_19_method_3_code 11 = .ok (.istore 5, 2) := by decide +kernel
theorem d1_13 : decode prog_19_method_3_code 13 = .ok (.sipush 191, 3) := by decide +kernel
theorem d1_16 : decode prog_19_method_3_code 16 = .ok (.istore 6, 2) := by decide +kernel
theorem d1_18 : decode prog_19_method_3_code 18 = .ok (.iload_n 3, 1) := by decide +kernel
theorem d1_19 : decode prog_19_method_3_code 19 = .ok (.sipush 194, 3) := by decide +kernel
theorem d1_22 : decode prog_19_method_3_code 22 = .ok (.if_icmp .lt 16, 3) := by decide +kernel
theorem d1_38 : decode prog_19_method_3_code 38 = .ok (.iload_n 3, 1) := by decide +kernel
theorem d1_39 : decode prog_19_method_3_code 39 = .ok (.sipush 224, 3) := by decide +kernel
theorem d1_42 : decode prog_19_method_3_code 42 = .ok (.if_icmp .ne 14, 3) := by decide +kernel
theorem d1_56 : decode prog_19_method_3_code 56 = .ok (.iload_n 3, 1) := by decide +kernel
theorem d1_57 : decode prog_19_method_3_code 57 = .ok (.sipush 237, 3) := by decide +kernel
theorem d1_60 : decode prog_19_method_3_code 60 = .ok (.if_icmp .ne 14, 3) := by decide +kernel
theorem d1_74 : decode prog_19_method_3_code 74 = .ok (.iload_n 3, 1) := by decide +kernel
theorem d1_75 : decode prog_19_method_3_code 75 = .ok (.sipush 225, 3) := by decide +kernel
theorem d1_78 : decode prog_19_method_3_code 78 = .ok (.if_icmp .lt 16, 3) := by decide +kernel
theorem d1_94 : decode prog_19_method_3_code 94 = .ok (.iload_n 3, 1) := by decide +kernel
theorem d1_95 : decode prog_19_method_3_code 95 = .ok (.sipush 240, 3) := by decide +kernel
theorem d1_98 : decode prog_19_method_3_code 98 = .ok (.if_icmp .ne 14, 3) := by decide +kernel
theorem d1_112 : decode prog_19_method_3_code 112 = .ok (.iload_n 3, 1) := by decide +kernel
theorem d1_113 : decode prog_19_method_3_code 113 = .ok (.sipush 244, 3) := by decide +kernel
theorem d1_116 : decode prog_19_method_3_code 116 = .ok (.if_icmp .ne 14, 3) := by decide +kernel
theorem d1_130 : decode prog_19_method_3_code 130 = .ok (.iload_n 3, 1) := by decide +kernel
theorem d1_131 : decode prog_19_method_3_code 131 = .ok (.sipush 241, 3) := by decide +kernel
theorem d1_134 : decode prog_19_method_3_code 134 = .ok (.if_icmp .lt 16, 3) := by decide +kernel
theorem d1_150 : decode prog_19_method_3_code 150 = .ok (.iconst 0, 1) := by decide +kernel
theorem d1_151 : decode prog_19_method_3_code 151 = .ok (.istore 4, 2) := by decide +kernel
theorem d1_153 : decode prog_19_method_3_code 153 = .ok (.iload 4, 2) := by decide +kernel
theorem d1_155 : decode prog_19_method_3_code 155 = .ok (.ifCond .eq 26, 3) := by decide +kernel
theorem d1_181 : decode prog_19_method_3_code 181 = .ok (.iconst 0, 1) := by decide +kernel
theorem d1_182 : decode prog_19_method_3_code 182 = .ok (.ireturn, 1) := by decide +kernel
theorem d1_137 : decode prog_19_method_3_code 137 = .ok (.iload_n 3, 1) := by decide +kernel
theorem d1_138 : decode prog_19_method_3_code 138 = .ok (.sipush 243, 3) := by decide +kernel
theorem d1_141 : decode prog_19_method_3_code 141 = .ok (.if_icmp .gt 9, 3) := by decide +kernel
theorem d1_144 : decode prog_19_method_3_code 144 = .ok (.iconst 4, 1) := by decide +kernel
theorem d1_145 : decode prog_19_method_3_code 145 = .ok (.istore 4, 2) := by decide +kernel
theorem d1_147 : decode prog_19_method_3_code 147 = .ok (.goto 6, 3) := by decide +kernel
theorem d1_158 : decode prog_19_method_3_code 158 = .ok (.iload_n 1, 1) := by decide +kernel
theorem d1_159 : decode prog_19_method_3_code 159 = .ok (.iload 4, 2) := by decide +kernel
theorem d1_161 : decode prog_19_method_3_code 161 = .ok (.iadd, 1) := by decide +kernel
theorem d1_162 : decode prog_19_method_3_code 162 = .ok (.iload_n 2, 1) := by decide +kernel
theorem d1_163 : decode prog_19_method_3_code 163 = .ok (.if_icmp .gt 18, 3) := by decide +kernel
theorem d1_166 : decode prog_19_method_3_code 166 = .ok (.aload_n 0, 1) := by decide +kernel
theorem d1_167 : decode prog_19_method_3_code 167 = .ok (.iload_n 1, 1) := by decide +kernel
theorem d1_168 : decode prog_19_method_3_code 168 = .ok (.iconst 1, 1) := by decide +kernel
theorem d1_169 : decode prog_19_method_3_code 169 = .ok (.iadd, 1) := by decide +kernel
theorem d1_170 : decode prog_19_method_3_code 170 = .ok (.baload, 1) := by decide +kernel
theorem d1_171 : decode prog_19_method_3_code 171 = .ok (.iload 5, 2) := by decide +kernel
theorem d1_173 : decode prog_19_method_3_code 173 = .ok (.iload 6, 2) := by decide +kernel
theorem d1_175 : decode prog_19_method_3_code 175 = .ok (.invokestatic 27, 3) := by decide +kernel
theorem pd__BII_Z : parseMethodDescriptor "(BII)Z" = some ⟨[.byte, .int, .int], some .boolean⟩ := by decide +kernel
theorem d1_178 : decode prog_19_method_3_code 178 = .ok (.ifCond .ne 5, 3) := by decide +kernel
theorem d1_183 : decode prog_19_method_3_code 183 = .ok (.iconst 2, 1) := by decide +kernel
theorem d1_184 : decode prog_19_method_3_code 184 = .ok (.istore 7, 2) := by decide +kernel
theorem d1_186 : decode prog_19_method_3_code 186 = .ok (.iload 7, 2) := by decide +kernel
theorem d1_188 : decode prog_19_method_3_code 188 = .ok (.iload 4, 2) := by decide +kernel
theorem d1_190 : decode prog_19_method_3_code 190 = .ok (.if_icmp .ge 29, 3) := by decide +kernel
theorem d1_193 : decode prog_19_method_3_code 193 = .ok (.aload_n 0, 1) := by decide +kernel
theorem d1_194 : decode prog_19_method_3_code 194 = .ok (.iload_n 1, 1) := by decide +kernel
theorem d1_195 : decode prog_19_method_3_code 195 = .ok (.iload 7, 2) := by decide +kernel
theorem d1_197 : decode prog_19_method_3_code 197 = .ok (.iadd, 1) := by decide +kernel
theorem d1_198 : decode prog_19_method_3_code 198 = .ok (.baload, 1) := by decide +kernel
theorem d1_199 : decode prog_19_method_3_code 199 = .ok (.sipush 128, 3) := by decide +kernel
theorem d1_202 : decode prog_19_method_3_code 202 = .ok (.sipush 191, 3) := by decide +kernel
theorem d1_205 : decode prog_19_method_3_code 205 = .ok (.invokestatic 27, 3) := by decide +kernel
theorem d1_208 : decode prog_19_method_3_code 208 = .ok (.ifCond .ne 5, 3) := by decide +kernel
theorem d1_213 : decode prog_19_method_3_code 213 = .ok (.iinc 7 1, 3) := by decide +kernel
theorem d1_216 : decode prog_19_method_3_code 216 = .ok (.goto (-30), 3) := by decide +kernel
theorem d1_219 : decode prog_19_method_3_code 219 = .ok (.iload 4, 2) := by decide +kernel
theorem d1_221 : decode prog_19_method_3_code 221 = .ok (.ireturn, 1) := by decide +kernel
theorem d1_211 : decode prog_19_method_3_code 211 = .ok (.iconst 0, 1) := by decide +kernel
theorem d1_212 : decode prog_19_method_3_code 212 = .ok (.ireturn, 1) := by decide +kernel
theorem d1_119 : decode prog_19_method_3_code 119 = .ok (.iconst 4, 1) := by decide +kernel
theorem d1_120 : decode prog_19_method_3_code 120 = .ok (.istore 4, 2) := by decide +kernel
theorem d1_122 : decode prog_19_method_3_code 122 = .ok (.sipush 143, 3) := by decide +kernel
theorem d1_125 : decode prog_19_method_3_code 125 = .ok (.istore 6, 2) := by decide +kernel
theorem d1_127 : decode prog_19_method_3_code 127 = .ok (.goto 26, 3) := by decide +kernel
theorem d1_101 : decode prog_19_method_3_code 101 = .ok (.iconst 4, 1) := by decide +kernel
theorem d1_102 : decode prog_19_method_3_code 102 = .ok (.istore 4, 2) := by decide +kernel
theorem d1_104 : decode prog_19_method_3_code 104 = .ok (.sipush 144, 3) := by decide +kernel
theorem d1_107 : decode prog_19_method_3_code 107 = .ok (.istore 5, 2) := by decide +kernel
theorem d1_109 : decode prog_19_method_3_code 109 = .ok (.goto 44, 3) := by decide +kernel
theorem d1_81 : decode prog_19_method_3_code 81 = .ok (.iload_n 3, 1) := by decide +kernel
theorem d1_82 : decode prog_19_method_3_code 82 = .ok (.sipush 239, 3) := by decide +kernel
theorem d1_85 : decode prog_19_method_3_code 85 = .ok (.if_icmp .gt 9, 3) := by decide +kernel
theorem d1_88 : decode prog_19_method_3_code 88 = .ok (.iconst 3, 1) := by decide +kernel
theorem d1_89 : decode prog_19_method_3_code 89 = .ok (.istore 4, 2) := by decide +kernel
theorem d1_91 : decode prog_19_method_3_code 91 = .ok (.goto 62, 3) := by decide +kernel
theorem d1_63 : decode prog_19_method_3_code 63 = .ok (.iconst 3, 1) := by decide +kernel
theorem d1_64 : decode prog_19_method_3_code 64 = .ok (.istore 4, 2) := by decide +kernel
theorem d1_66 : decode prog_19_method_3_code 66 = .ok (.sipush 159, 3) := by decide +kernel
theorem d1_69 : decode prog_19_method_3_code 69 = .ok (.istore 6, 2) := by decide +kernel
theorem d1_71 : decode prog_19_method_3_code 71 = .ok (.goto 82, 3) := by decide +kernel
theorem d1_45 : decode prog_19_method_3_code 45 = .ok (.iconst 3, 1) := by decide +kernel
theorem d1_46 : decode prog_19_method_3_code 46 = .ok (.istore 4, 2) := by decide +kernel
theorem d1_48 : decode prog_19_method_3_code 48 = .ok (.sipush 160, 3) := by decide +kernel
theorem d1_51 : decode prog_19_method_3_code 51 = .ok (.istore 5, 2) := by decide +kernel
theorem d1_53 : decode prog_19_method_3_code 53 = .ok (.goto 100, 3) := by decide +kernel
theorem d1_25 : decode prog_19_method_3_code 25 = .ok (.iload_n 3, 1) := by decide +kernel
theorem d1_26 : decode prog_19_method_3_code 26 = .ok (.sipush 223, 3) := by decide +kernel
theorem d1_29 : decode prog_19_method_3_code 29 = .ok (.if_icmp .gt 9, 3) := by decide +kernel
theorem d1_32 : decode prog_19_method_3_code 32 = .ok (.iconst 2, 1) := by decide +kernel
theorem d1_33 : decode prog_19_method_3_code 33 = .ok (.istore 4, 2) := by decide +kernel
theorem d1_35 : decode prog_19_method_3_code 35 = .ok (.goto 118, 3) := by decide +kernel
theorem pn_1 : plainFor (⟨"com/example/dhole/dhole/read/Utf8", "sequenceLength", "([BII)I"⟩ : MethodName) = true := plainFor_of_name (by first | (simp [plainName, overriddenIn]; done) | decide +kernel)
set_option maxHeartbeats 4000000 in
theorem c_seq (l : Launch) (Z : State) (a0 : Array Value) (hw : OW Z a0) (n0 : Nat) (a : Addr) (n : Nat) (g : Nat → Int32) (i en : Int32) (h0 : Heap) (Z0 : n0 ≤ h0.size) (A_a : OAr Z h0 a .byte n (fun j => .int (g j))) (h1 : 0 ≤ i.toInt ∧ i.toInt + 1 ≤ en.toInt ∧ en.toInt ≤ n ∧ n ≤ 7) :
    OCon l Z n0 (⟨"com/example/dhole/dhole/read/Utf8", "sequenceLength", "([BII)I"⟩ : MethodName) prog_19_method_3_code 8 (some .int) ({ frames := 1, cells := 0, slots := 0, locals := 20 } : Room) #[(.ref a), (.int i), (.int en)] h0 (fun v h => ∃ r : Int32, v = some (.int r) ∧ r.toInt = own_len (g (i.toInt.toNat) &&& 255).toInt (g (i.toInt.toNat + 1) &&& 255).toInt (g (i.toInt.toNat + 2) &&& 255).toInt (g (i.toInt.toNat + 3) &&& 255).toInt (en.toInt - i.toInt) ∧ h = h0) := by
  refine OCon.of (Ls := #[.val (.ref a), .val (.int i), .val (.int en), .unset, .unset, .unset, .unset, .unset]) pn_1 rfl rfl (fun m => by first | (simp [entryFrame, mkF, argsToLocals, Value.category]; done) | rfl) ?_
  intro p e s m below meth c T0 X0 K e0
  have N0 := Fr.nil n0
  have l0 : (0 : Int32).toInt = 0 := rfl
  have l1 : (1 : Int32).toInt = 1 := rfl
  have l2 : (2 : Int32).toInt = 2 := rfl
  have l3 : (3 : Int32).toInt = 3 := rfl
  have l4 : (4 : Int32).toInt = 4 := rfl
  have l128 : (128 : Int32).toInt = 128 := rfl
  have l143 : (143 : Int32).toInt = 143 := rfl
  have l144 : (144 : Int32).toInt = 144 := rfl
  have l159 : (159 : Int32).toInt = 159 := rfl
  have l160 : (160 : Int32).toInt = 160 := rfl
  have l191 : (191 : Int32).toInt = 191 := rfl
  have l194 : (194 : Int32).toInt = 194 := rfl
  have l223 : (223 : Int32).toInt = 223 := rfl
  have l224 : (224 : Int32).toInt = 224 := rfl
  have l225 : (225 : Int32).toInt = 225 := rfl
  have l237 : (237 : Int32).toInt = 237 := rfl
  have l239 : (239 : Int32).toInt = 239 := rfl
  have l240 : (240 : Int32).toInt = 240 := rfl
  have l241 : (241 : Int32).toInt = 241 := rfl
  have l243 : (243 : Int32).toInt = 243 := rfl
  have l244 : (244 : Int32).toInt = 244 := rfl
  have l255 : (255 : Int32).toInt = 255 := rfl
  obtain ⟨iN, hiN⟩ : ∃ k, k = i.toInt.toNat := ⟨_, rfl⟩
  rw [← hiN]
  have hB0 := own_m255 (g iN)
  have hB1 := own_m255 (g (iN + 1))
  have hB2 := own_m255 (g (iN + 2))
  have hB3 := own_m255 (g (iN + 3))
  refine o_aloadN X0 K d1_0 1 rfl rfl rfl ?_
  refine o_iloadN X0 K d1_1 2 rfl rfl ?_
  refine o_baload X0 K (i := iN) (v := (.int (g iN))) d1_2 3 rfl e0 A_a (by omega) (by omega) (rfl) ?_
  refine o_sipush X0 K (255 : Int32) d1_3 6 rfl rfl ?_
  refine o_iand X0 K d1_6 7 rfl ?_
  obtain ⟨ld, h_ld⟩ : ∃ z_ : Int32, z_ = ((g iN) &&& (255 : Int32)) := ⟨_, rfl⟩
  refine o_istoreN X0 K d1_7 8 rfl #[.val (.ref a), .val (.int i), .val (.int en), .val (.int ld), .unset, .unset, .unset, .unset] h_ld.symm rfl ?_
  refine o_sipush X0 K (128 : Int32) d1_8 11 rfl rfl ?_
  refine o_istore X0 K d1_11 13 rfl #[.val (.ref a), .val (.int i), .val (.int en), .val (.int ld), .unset, .val (.int (128 : Int32)), .unset, .unset] rfl rfl ?_
  refine o_sipush X0 K (191 : Int32) d1_13 16 rfl rfl ?_
  refine o_istore X0 K d1_16 18 rfl #[.val (.ref a), .val (.int i), .val (.int en), .val (.int ld), .unset, .val (.int (128 : Int32)), .val (.int (191 : Int32)), .unset] rfl rfl ?_
  refine o_iloadN X0 K d1_18 19 rfl rfl ?_
  refine o_sipush X0 K (194 : Int32) d1_19 22 rfl rfl ?_
  refine o_icmp_lt X0 K d1_22 38 (by decide) (by decide) 25 rfl (fun hc22 => ?_) (fun hc22 => ?_)
  · refine o_iloadN X0 K d1_38 39 rfl rfl ?_
    refine o_sipush X0 K (224 : Int32) d1_39 42 rfl rfl ?_
    refine o_icmp_ne X0 K d1_42 56 (by decide) (by decide) 45 rfl (fun hc42 => ?_) (fun hc42 => ?_)
    · rw [← Int32.toInt_inj] at hc42
      refine o_iloadN X0 K d1_56 57 rfl rfl ?_
      refine o_sipush X0 K (237 : Int32) d1_57 60 rfl rfl ?_
      refine o_icmp_ne X0 K d1_60 74 (by decide) (by decide) 63 rfl (fun hc60 => ?_) (fun hc60 => ?_)
      · rw [← Int32.toInt_inj] at hc60
        refine o_iloadN X0 K d1_74 75 rfl rfl ?_
        refine o_sipush X0 K (225 : Int32) d1_75 78 rfl rfl ?_
        refine o_icmp_lt X0 K d1_78 94 (by decide) (by decide) 81 rfl (fun hc78 => ?_) (fun hc78 => ?_)
        · refine o_iloadN X0 K d1_94 95 rfl rfl ?_
          refine o_sipush X0 K (240 : Int32) d1_95 98 rfl rfl ?_
          refine o_icmp_ne X0 K d1_98 112 (by decide) (by decide) 101 rfl (fun hc98 => ?_) (fun hc98 => ?_)
          · rw [← Int32.toInt_inj] at hc98
            refine o_iloadN X0 K d1_112 113 rfl rfl ?_
            refine o_sipush X0 K (244 : Int32) d1_113 116 rfl rfl ?_
            refine o_icmp_ne X0 K d1_116 130 (by decide) (by decide) 119 rfl (fun hc116 => ?_) (fun hc116 => ?_)
            · rw [← Int32.toInt_inj] at hc116
              refine o_iloadN X0 K d1_130 131 rfl rfl ?_
              refine o_sipush X0 K (241 : Int32) d1_131 134 rfl rfl ?_
              refine o_icmp_lt X0 K d1_134 150 (by decide) (by decide) 137 rfl (fun hc134 => ?_) (fun hc134 => ?_)
              · refine o_iconst X0 K (0 : Int32) d1_150 151 rfl rfl ?_
                refine o_istore X0 K d1_151 153 rfl #[.val (.ref a), .val (.int i), .val (.int en), .val (.int ld), .val (.int (0 : Int32)), .val (.int (128 : Int32)), .val (.int (191 : Int32)), .unset] rfl rfl ?_
                refine o_iload X0 K d1_153 155 rfl rfl ?_
                refine o_if_eq_t X0 K d1_155 181 (by decide) (by decide) (by decide) ?_
                refine o_iconst X0 K (0 : Int32) d1_181 182 rfl rfl ?_
                refine o_ireturn X0 K d1_182 (by decide) (by decide) N0 ?_
                refine ⟨_, rfl, ?_, e0⟩
                clear X0 K e0 N0
                subst h_ld
                simp only [own_len]
                repeat' split
                all_goals omega
              · refine o_iloadN X0 K d1_137 138 rfl rfl ?_
                refine o_sipush X0 K (243 : Int32) d1_138 141 rfl rfl ?_
                refine o_icmp_gt X0 K d1_141 150 (by decide) (by decide) 144 rfl (fun hc141 => ?_) (fun hc141 => ?_)
                · refine o_iconst X0 K (0 : Int32) d1_150 151 rfl rfl ?_
                  refine o_istore X0 K d1_151 153 rfl #[.val (.ref a), .val (.int i), .val (.int en), .val (.int ld), .val (.int (0 : Int32)), .val (.int (128 : Int32)), .val (.int (191 : Int32)), .unset] rfl rfl ?_
                  refine o_iload X0 K d1_153 155 rfl rfl ?_
                  refine o_if_eq_t X0 K d1_155 181 (by decide) (by decide) (by decide) ?_
                  refine o_iconst X0 K (0 : Int32) d1_181 182 rfl rfl ?_
                  refine o_ireturn X0 K d1_182 (by decide) (by decide) N0 ?_
                  refine ⟨_, rfl, ?_, e0⟩
                  clear X0 K e0 N0
                  subst h_ld
                  simp only [own_len]
                  repeat' split
                  all_goals omega
                · refine o_iconst X0 K (4 : Int32) d1_144 145 rfl rfl ?_
                  refine o_istore X0 K d1_145 147 rfl #[.val (.ref a), .val (.int i), .val (.int en), .val (.int ld), .val (.int (4 : Int32)), .val (.int (128 : Int32)), .val (.int (191 : Int32)), .unset] rfl rfl ?_
                  refine o_goto X0 K d1_147 153 (by decide) (by decide) ?_
                  refine o_iload X0 K d1_153 155 rfl rfl ?_
                  refine o_if_eq_f X0 K d1_155 158 rfl (by decide) ?_
                  refine o_iloadN X0 K d1_158 159 rfl rfl ?_
                  refine o_iload X0 K d1_159 161 rfl rfl ?_
                  refine o_iadd X0 K d1_161 162 rfl ?_
                  refine o_iloadN X0 K d1_162 163 rfl rfl ?_
                  have ha4 : (i + (4 : Int32)).toInt = i.toInt + 4 := by have q1 := c_iadd i (4 : Int32); have q2 := rng32 (i + (4 : Int32)); omega
                  refine o_icmp_gt X0 K d1_163 181 (by decide) (by decide) 166 rfl (fun hc163 => ?_) (fun hc163 => ?_)
                  · refine o_iconst X0 K (0 : Int32) d1_181 182 rfl rfl ?_
                    refine o_ireturn X0 K d1_182 (by decide) (by decide) N0 ?_
                    refine ⟨_, rfl, ?_, e0⟩
                    clear X0 K e0 N0
                    subst h_ld
                    simp only [own_len]
                    repeat' split
                    all_goals omega
                  · refine o_aloadN X0 K d1_166 167 rfl rfl rfl ?_
                    refine o_iloadN X0 K d1_167 168 rfl rfl ?_
                    refine o_iconst X0 K (1 : Int32) d1_168 169 rfl rfl ?_
                    refine o_iadd X0 K d1_169 170 rfl ?_
                    have hi1 : (i + (1 : Int32)).toInt = i.toInt + 1 := by have q1 := c_iadd i 1; have q2 := rng32 (i + 1); omega
                    refine o_baload X0 K (i := (iN + 1)) (v := (.int (g (iN + 1)))) d1_170 171 rfl e0 A_a (by omega) (by omega) (rfl) ?_
                    refine o_iload X0 K d1_171 173 rfl rfl ?_
                    refine o_iload X0 K d1_173 175 rfl rfl ?_
                    refine o_invokestatic X0 K d1_175 178 rfl (w_10 hw) (w_11 hw) (w_4 hw) (w_12 hw) (by decide) [(.int (g (iN + 1))), (.int (128 : Int32)), (.int (191 : Int32))] [] rfl  (c_within l Z a0 hw n0 (g (iN + 1)) (128 : Int32) (191 : Int32) h0 Z0) e0 rfl (lenOf pd__BII_Z rfl) (by decide) 0 (Nat.le_of_eq rfl) (by decide) (by decide) (by decide) N0 ?_
                    rintro _ T_1 h_1 locs_1 X_1 q_1 ⟨rv_1, rfl, hb_1, r_1⟩ N_1
                    have e_1 := q_1.trans r_1
                    show OGo p e below s n0 _ _ _ (T_1.setTop (mkF m 178 #[.val (.ref a), .val (.int i), .val (.int en), .val (.int ld), .val (.int (4 : Int32)), .val (.int (128 : Int32)), .val (.int (191 : Int32)), .unset] [(.int rv_1)]))
                    rcases hb_1 with ⟨rfl, hr_rv_1⟩ | ⟨rfl, hr_rv_1⟩
                    · skip
                      refine o_if_ne_t X_1 K d1_178 183 (by decide) (by decide) (by decide) ?_
                      refine o_iconst X_1 K (2 : Int32) d1_183 184 rfl rfl ?_
                      refine o_istore X_1 K d1_184 186 rfl #[.val (.ref a), .val (.int i), .val (.int en), .val (.int ld), .val (.int (4 : Int32)), .val (.int (128 : Int32)), .val (.int (191 : Int32)), .val (.int (2 : Int32))] rfl rfl ?_
                      refine o_iload X_1 K d1_186 188 rfl rfl ?_
                      refine o_iload X_1 K d1_188 190 rfl rfl ?_
                      refine o_icmp_ge_f X_1 K d1_190 193 rfl (by decide) ?_
                      refine o_aloadN X_1 K d1_193 194 rfl rfl rfl ?_
                      refine o_iloadN X_1 K d1_194 195 rfl rfl ?_
                      refine o_iload X_1 K d1_195 197 rfl rfl ?_
                      refine o_iadd X_1 K d1_197 198 rfl ?_
                      have hk2 : (i + (2 : Int32)).toInt = i.toInt + 2 := by have q1 := c_iadd i 2; have q2 := rng32 (i + 2); omega
                      refine o_baload X_1 K (i := (iN + 2)) (v := (.int (g (iN + 2)))) d1_198 199 rfl e_1 A_a (by omega) (by omega) (rfl) ?_
                      refine o_sipush X_1 K (128 : Int32) d1_199 202 rfl rfl ?_
                      refine o_sipush X_1 K (191 : Int32) d1_202 205 rfl rfl ?_
                      refine o_invokestatic X_1 K d1_205 208 rfl (w_10 hw) (w_11 hw) (w_4 hw) (w_12 hw) (by decide) [(.int (g (iN + 2))), (.int (128 : Int32)), (.int (191 : Int32))] [] rfl  (c_within l Z a0 hw n0 (g (iN + 2)) (128 : Int32) (191 : Int32) h0 Z0) e_1 rfl (lenOf pd__BII_Z rfl) (by decide) 0 (Nat.le_of_eq rfl) (by decide) (by decide) (by decide) N_1 ?_
                      rintro _ T_2 h_2 locs_2 X_2 q_2 ⟨rv_2, rfl, hb_2, r_2⟩ N_2
                      have e_2 := q_2.trans r_2
                      show OGo p e below s n0 _ _ _ (T_2.setTop (mkF m 208 #[.val (.ref a), .val (.int i), .val (.int en), .val (.int ld), .val (.int (4 : Int32)), .val (.int (128 : Int32)), .val (.int (191 : Int32)), .val (.int (2 : Int32))] [(.int rv_2)]))
                      rcases hb_2 with ⟨rfl, hr_rv_2⟩ | ⟨rfl, hr_rv_2⟩
                      · skip
                        refine o_if_ne_t X_2 K d1_208 213 (by decide) (by decide) (by decide) ?_
                        refine o_iinc X_2 K d1_213 216 rfl #[.val (.ref a), .val (.int i), .val (.int en), .val (.int ld), .val (.int (4 : Int32)), .val (.int (128 : Int32)), .val (.int (191 : Int32)), .val (.int (3 : Int32))] rfl (by decide) rfl ?_
                        refine o_goto X_2 K d1_216 186 (by decide) (by decide) ?_
                        refine o_iload X_2 K d1_186 188 rfl rfl ?_
                        refine o_iload X_2 K d1_188 190 rfl rfl ?_
                        refine o_icmp_ge_f X_2 K d1_190 193 rfl (by decide) ?_
                        refine o_aloadN X_2 K d1_193 194 rfl rfl rfl ?_
                        refine o_iloadN X_2 K d1_194 195 rfl rfl ?_
                        refine o_iload X_2 K d1_195 197 rfl rfl ?_
                        refine o_iadd X_2 K d1_197 198 rfl ?_
                        have hk3 : (i + (3 : Int32)).toInt = i.toInt + 3 := by have q1 := c_iadd i 3; have q2 := rng32 (i + 3); omega
                        refine o_baload X_2 K (i := (iN + 3)) (v := (.int (g (iN + 3)))) d1_198 199 rfl e_2 A_a (by omega) (by omega) (rfl) ?_
                        refine o_sipush X_2 K (128 : Int32) d1_199 202 rfl rfl ?_
                        refine o_sipush X_2 K (191 : Int32) d1_202 205 rfl rfl ?_
                        refine o_invokestatic X_2 K d1_205 208 rfl (w_10 hw) (w_11 hw) (w_4 hw) (w_12 hw) (by decide) [(.int (g (iN + 3))), (.int (128 : Int32)), (.int (191 : Int32))] [] rfl  (c_within l Z a0 hw n0 (g (iN + 3)) (128 : Int32) (191 : Int32) h0 Z0) e_2 rfl (lenOf pd__BII_Z rfl) (by decide) 0 (Nat.le_of_eq rfl) (by decide) (by decide) (by decide) N_2 ?_
                        rintro _ T_3 h_3 locs_3 X_3 q_3 ⟨rv_3, rfl, hb_3, r_3⟩ N_3
                        have e_3 := q_3.trans r_3
                        show OGo p e below s n0 _ _ _ (T_3.setTop (mkF m 208 #[.val (.ref a), .val (.int i), .val (.int en), .val (.int ld), .val (.int (4 : Int32)), .val (.int (128 : Int32)), .val (.int (191 : Int32)), .val (.int (3 : Int32))] [(.int rv_3)]))
                        rcases hb_3 with ⟨rfl, hr_rv_3⟩ | ⟨rfl, hr_rv_3⟩
                        · skip
                          refine o_if_ne_t X_3 K d1_208 213 (by decide) (by decide) (by decide) ?_
                          refine o_iinc X_3 K d1_213 216 rfl #[.val (.ref a), .val (.int i), .val (.int en), .val (.int ld), .val (.int (4 : Int32)), .val (.int (128 : Int32)), .val (.int (191 : Int32)), .val (.int (4 : Int32))] rfl (by decide) rfl ?_
                          refine o_goto X_3 K d1_216 186 (by decide) (by decide) ?_
                          refine o_iload X_3 K d1_186 188 rfl rfl ?_
                          refine o_iload X_3 K d1_188 190 rfl rfl ?_
                          refine o_icmp_ge_t X_3 K d1_190 219 (by decide) (by decide) (by decide) ?_
                          refine o_iload X_3 K d1_219 221 rfl rfl ?_
                          refine o_ireturn X_3 K d1_221 (by decide) (by decide) N_3 ?_
                          refine ⟨_, rfl, ?_, e_3⟩
                          clear X0 K e0 N0
                          subst h_ld
                          simp only [own_len]
                          repeat' split
                          all_goals omega
                        · skip
                          refine o_if_ne_f X_3 K d1_208 211 rfl (by decide) ?_
                          refine o_iconst X_3 K (0 : Int32) d1_211 212 rfl rfl ?_
                          refine o_ireturn X_3 K d1_212 (by decide) (by decide) N_3 ?_
                          refine ⟨_, rfl, ?_, e_3⟩
                          clear X0 K e0 N0
                          subst h_ld
                          simp only [own_len]
                          repeat' split
                          all_goals omega
                      · skip
                        refine o_if_ne_f X_2 K d1_208 211 rfl (by decide) ?_
                        refine o_iconst X_2 K (0 : Int32) d1_211 212 rfl rfl ?_
                        refine o_ireturn X_2 K d1_212 (by decide) (by decide) N_2 ?_
                        refine ⟨_, rfl, ?_, e_2⟩
                        clear X0 K e0 N0
                        subst h_ld
                        simp only [own_len]
                        repeat' split
                        all_goals omega
                    · skip
                      refine o_if_ne_f X_1 K d1_178 181 rfl (by decide) ?_
                      refine o_iconst X_1 K (0 : Int32) d1_181 182 rfl rfl ?_
                      refine o_ireturn X_1 K d1_182 (by decide) (by decide) N_1 ?_
                      refine ⟨_, rfl, ?_, e_1⟩
                      clear X0 K e0 N0
                      subst h_ld
                      simp only [own_len]
                      repeat' split
                      all_goals omega
            · rw [← Int32.toInt_inj] at hc116
              refine o_iconst X0 K (4 : Int32) d1_119 120 rfl rfl ?_
              refine o_istore X0 K d1_120 122 rfl #[.val (.ref a), .val (.int i), .val (.int en), .val (.int ld), .val (.int (4 : Int32)), .val (.int (128 : Int32)), .val (.int (191 : Int32)), .unset] rfl rfl ?_
              refine o_sipush X0 K (143 : Int32) d1_122 125 rfl rfl ?_
              refine o_istore X0 K d1_125 127 rfl #[.val (.ref a), .val (.int i), .val (.int en), .val (.int ld), .val (.int (4 : Int32)), .val (.int (128 : Int32)), .val (.int (143 : Int32)), .unset] rfl rfl ?_
              refine o_goto X0 K d1_127 153 (by decide) (by decide) ?_
              refine o_iload X0 K d1_153 155 rfl rfl ?_
              refine o_if_eq_f X0 K d1_155 158 rfl (by decide) ?_
              refine o_iloadN X0 K d1_158 159 rfl rfl ?_
              refine o_iload X0 K d1_159 161 rfl rfl ?_
              refine o_iadd X0 K d1_161 162 rfl ?_
              refine o_iloadN X0 K d1_162 163 rfl rfl ?_
              have ha4 : (i + (4 : Int32)).toInt = i.toInt + 4 := by have q1 := c_iadd i (4 : Int32); have q2 := rng32 (i + (4 : Int32)); omega
              refine o_icmp_gt X0 K d1_163 181 (by decide) (by decide) 166 rfl (fun hc163 => ?_) (fun hc163 => ?_)
              · refine o_iconst X0 K (0 : Int32) d1_181 182 rfl rfl ?_
                refine o_ireturn X0 K d1_182 (by decide) (by decide) N0 ?_
                refine ⟨_, rfl, ?_, e0⟩
                clear X0 K e0 N0
                subst h_ld
                simp only [own_len]
                repeat' split
                all_goals omega
              · refine o_aloadN X0 K d1_166 167 rfl rfl rfl ?_
                refine o_iloadN X0 K d1_167 168 rfl rfl ?_
                refine o_iconst X0 K (1 : Int32) d1_168 169 rfl rfl ?_
                refine o_iadd X0 K d1_169 170 rfl ?_
                have hi1 : (i + (1 : Int32)).toInt = i.toInt + 1 := by have q1 := c_iadd i 1; have q2 := rng32 (i + 1); omega
                refine o_baload X0 K (i := (iN + 1)) (v := (.int (g (iN + 1)))) d1_170 171 rfl e0 A_a (by omega) (by omega) (rfl) ?_
                refine o_iload X0 K d1_171 173 rfl rfl ?_
                refine o_iload X0 K d1_173 175 rfl rfl ?_
                refine o_invokestatic X0 K d1_175 178 rfl (w_10 hw) (w_11 hw) (w_4 hw) (w_12 hw) (by decide) [(.int (g (iN + 1))), (.int (128 : Int32)), (.int (143 : Int32))] [] rfl  (c_within l Z a0 hw n0 (g (iN + 1)) (128 : Int32) (143 : Int32) h0 Z0) e0 rfl (lenOf pd__BII_Z rfl) (by decide) 0 (Nat.le_of_eq rfl) (by decide) (by decide) (by decide) N0 ?_
                rintro _ T_4 h_4 locs_4 X_4 q_4 ⟨rv_4, rfl, hb_4, r_4⟩ N_4
                have e_4 := q_4.trans r_4
                show OGo p e below s n0 _ _ _ (T_4.setTop (mkF m 178 #[.val (.ref a), .val (.int i), .val (.int en), .val (.int ld), .val (.int (4 : Int32)), .val (.int (128 : Int32)), .val (.int (143 : Int32)), .unset] [(.int rv_4)]))
                rcases hb_4 with ⟨rfl, hr_rv_4⟩ | ⟨rfl, hr_rv_4⟩
                · skip
                  refine o_if_ne_t X_4 K d1_178 183 (by decide) (by decide) (by decide) ?_
                  refine o_iconst X_4 K (2 : Int32) d1_183 184 rfl rfl ?_
                  refine o_istore X_4 K d1_184 186 rfl #[.val (.ref a), .val (.int i), .val (.int en), .val (.int ld), .val (.int (4 : Int32)), .val (.int (128 : Int32)), .val (.int (143 : Int32)), .val (.int (2 : Int32))] rfl rfl ?_
                  refine o_iload X_4 K d1_186 188 rfl rfl ?_
                  refine o_iload X_4 K d1_188 190 rfl rfl ?_
                  refine o_icmp_ge_f X_4 K d1_190 193 rfl (by decide) ?_
                  refine o_aloadN X_4 K d1_193 194 rfl rfl rfl ?_
                  refine o_iloadN X_4 K d1_194 195 rfl rfl ?_
                  refine o_iload X_4 K d1_195 197 rfl rfl ?_
                  refine o_iadd X_4 K d1_197 198 rfl ?_
                  have hk2 : (i + (2 : Int32)).toInt = i.toInt + 2 := by have q1 := c_iadd i 2; have q2 := rng32 (i + 2); omega
                  refine o_baload X_4 K (i := (iN + 2)) (v := (.int (g (iN + 2)))) d1_198 199 rfl e_4 A_a (by omega) (by omega) (rfl) ?_
                  refine o_sipush X_4 K (128 : Int32) d1_199 202 rfl rfl ?_
                  refine o_sipush X_4 K (191 : Int32) d1_202 205 rfl rfl ?_
                  refine o_invokestatic X_4 K d1_205 208 rfl (w_10 hw) (w_11 hw) (w_4 hw) (w_12 hw) (by decide) [(.int (g (iN + 2))), (.int (128 : Int32)), (.int (191 : Int32))] [] rfl  (c_within l Z a0 hw n0 (g (iN + 2)) (128 : Int32) (191 : Int32) h0 Z0) e_4 rfl (lenOf pd__BII_Z rfl) (by decide) 0 (Nat.le_of_eq rfl) (by decide) (by decide) (by decide) N_4 ?_
                  rintro _ T_5 h_5 locs_5 X_5 q_5 ⟨rv_5, rfl, hb_5, r_5⟩ N_5
                  have e_5 := q_5.trans r_5
                  show OGo p e below s n0 _ _ _ (T_5.setTop (mkF m 208 #[.val (.ref a), .val (.int i), .val (.int en), .val (.int ld), .val (.int (4 : Int32)), .val (.int (128 : Int32)), .val (.int (143 : Int32)), .val (.int (2 : Int32))] [(.int rv_5)]))
                  rcases hb_5 with ⟨rfl, hr_rv_5⟩ | ⟨rfl, hr_rv_5⟩
                  · skip
                    refine o_if_ne_t X_5 K d1_208 213 (by decide) (by decide) (by decide) ?_
                    refine o_iinc X_5 K d1_213 216 rfl #[.val (.ref a), .val (.int i), .val (.int en), .val (.int ld), .val (.int (4 : Int32)), .val (.int (128 : Int32)), .val (.int (143 : Int32)), .val (.int (3 : Int32))] rfl (by decide) rfl ?_
                    refine o_goto X_5 K d1_216 186 (by decide) (by decide) ?_
                    refine o_iload X_5 K d1_186 188 rfl rfl ?_
                    refine o_iload X_5 K d1_188 190 rfl rfl ?_
                    refine o_icmp_ge_f X_5 K d1_190 193 rfl (by decide) ?_
                    refine o_aloadN X_5 K d1_193 194 rfl rfl rfl ?_
                    refine o_iloadN X_5 K d1_194 195 rfl rfl ?_
                    refine o_iload X_5 K d1_195 197 rfl rfl ?_
                    refine o_iadd X_5 K d1_197 198 rfl ?_
                    have hk3 : (i + (3 : Int32)).toInt = i.toInt + 3 := by have q1 := c_iadd i 3; have q2 := rng32 (i + 3); omega
                    refine o_baload X_5 K (i := (iN + 3)) (v := (.int (g (iN + 3)))) d1_198 199 rfl e_5 A_a (by omega) (by omega) (rfl) ?_
                    refine o_sipush X_5 K (128 : Int32) d1_199 202 rfl rfl ?_
                    refine o_sipush X_5 K (191 : Int32) d1_202 205 rfl rfl ?_
                    refine o_invokestatic X_5 K d1_205 208 rfl (w_10 hw) (w_11 hw) (w_4 hw) (w_12 hw) (by decide) [(.int (g (iN + 3))), (.int (128 : Int32)), (.int (191 : Int32))] [] rfl  (c_within l Z a0 hw n0 (g (iN + 3)) (128 : Int32) (191 : Int32) h0 Z0) e_5 rfl (lenOf pd__BII_Z rfl) (by decide) 0 (Nat.le_of_eq rfl) (by decide) (by decide) (by decide) N_5 ?_
                    rintro _ T_6 h_6 locs_6 X_6 q_6 ⟨rv_6, rfl, hb_6, r_6⟩ N_6
                    have e_6 := q_6.trans r_6
                    show OGo p e below s n0 _ _ _ (T_6.setTop (mkF m 208 #[.val (.ref a), .val (.int i), .val (.int en), .val (.int ld), .val (.int (4 : Int32)), .val (.int (128 : Int32)), .val (.int (143 : Int32)), .val (.int (3 : Int32))] [(.int rv_6)]))
                    rcases hb_6 with ⟨rfl, hr_rv_6⟩ | ⟨rfl, hr_rv_6⟩
                    · skip
                      refine o_if_ne_t X_6 K d1_208 213 (by decide) (by decide) (by decide) ?_
                      refine o_iinc X_6 K d1_213 216 rfl #[.val (.ref a), .val (.int i), .val (.int en), .val (.int ld), .val (.int (4 : Int32)), .val (.int (128 : Int32)), .val (.int (143 : Int32)), .val (.int (4 : Int32))] rfl (by decide) rfl ?_
                      refine o_goto X_6 K d1_216 186 (by decide) (by decide) ?_
                      refine o_iload X_6 K d1_186 188 rfl rfl ?_
                      refine o_iload X_6 K d1_188 190 rfl rfl ?_
                      refine o_icmp_ge_t X_6 K d1_190 219 (by decide) (by decide) (by decide) ?_
                      refine o_iload X_6 K d1_219 221 rfl rfl ?_
                      refine o_ireturn X_6 K d1_221 (by decide) (by decide) N_6 ?_
                      refine ⟨_, rfl, ?_, e_6⟩
                      clear X0 K e0 N0
                      subst h_ld
                      simp only [own_len]
                      repeat' split
                      all_goals omega
                    · skip
                      refine o_if_ne_f X_6 K d1_208 211 rfl (by decide) ?_
                      refine o_iconst X_6 K (0 : Int32) d1_211 212 rfl rfl ?_
                      refine o_ireturn X_6 K d1_212 (by decide) (by decide) N_6 ?_
                      refine ⟨_, rfl, ?_, e_6⟩
                      clear X0 K e0 N0
                      subst h_ld
                      simp only [own_len]
                      repeat' split
                      all_goals omega
                  · skip
                    refine o_if_ne_f X_5 K d1_208 211 rfl (by decide) ?_
                    refine o_iconst X_5 K (0 : Int32) d1_211 212 rfl rfl ?_
                    refine o_ireturn X_5 K d1_212 (by decide) (by decide) N_5 ?_
                    refine ⟨_, rfl, ?_, e_5⟩
                    clear X0 K e0 N0
                    subst h_ld
                    simp only [own_len]
                    repeat' split
                    all_goals omega
                · skip
                  refine o_if_ne_f X_4 K d1_178 181 rfl (by decide) ?_
                  refine o_iconst X_4 K (0 : Int32) d1_181 182 rfl rfl ?_
                  refine o_ireturn X_4 K d1_182 (by decide) (by decide) N_4 ?_
                  refine ⟨_, rfl, ?_, e_4⟩
                  clear X0 K e0 N0
                  subst h_ld
                  simp only [own_len]
                  repeat' split
                  all_goals omega
          · rw [← Int32.toInt_inj] at hc98
            refine o_iconst X0 K (4 : Int32) d1_101 102 rfl rfl ?_
            refine o_istore X0 K d1_102 104 rfl #[.val (.ref a), .val (.int i), .val (.int en), .val (.int ld), .val (.int (4 : Int32)), .val (.int (128 : Int32)), .val (.int (191 : Int32)), .unset] rfl rfl ?_
            refine o_sipush X0 K (144 : Int32) d1_104 107 rfl rfl ?_
            refine o_istore X0 K d1_107 109 rfl #[.val (.ref a), .val (.int i), .val (.int en), .val (.int ld), .val (.int (4 : Int32)), .val (.int (144 : Int32)), .val (.int (191 : Int32)), .unset] rfl rfl ?_
            refine o_goto X0 K d1_109 153 (by decide) (by decide) ?_
            refine o_iload X0 K d1_153 155 rfl rfl ?_
            refine o_if_eq_f X0 K d1_155 158 rfl (by decide) ?_
            refine o_iloadN X0 K d1_158 159 rfl rfl ?_
            refine o_iload X0 K d1_159 161 rfl rfl ?_
            refine o_iadd X0 K d1_161 162 rfl ?_
            refine o_iloadN X0 K d1_162 163 rfl rfl ?_
            have ha4 : (i + (4 : Int32)).toInt = i.toInt + 4 := by have q1 := c_iadd i (4 : Int32); have q2 := rng32 (i + (4 : Int32)); omega
            refine o_icmp_gt X0 K d1_163 181 (by decide) (by decide) 166 rfl (fun hc163 => ?_) (fun hc163 => ?_)
            · refine o_iconst X0 K (0 : Int32) d1_181 182 rfl rfl ?_
              refine o_ireturn X0 K d1_182 (by decide) (by decide) N0 ?_
              refine ⟨_, rfl, ?_, e0⟩
              clear X0 K e0 N0
              subst h_ld
              simp only [own_len]
              repeat' split
              all_goals omega
            · refine o_aloadN X0 K d1_166 167 rfl rfl rfl ?_
              refine o_iloadN X0 K d1_167 168 rfl rfl ?_
              refine o_iconst X0 K (1 : Int32) d1_168 169 rfl rfl ?_
              refine o_iadd X0 K d1_169 170 rfl ?_
              have hi1 : (i + (1 : Int32)).toInt = i.toInt + 1 := by have q1 := c_iadd i 1; have q2 := rng32 (i + 1); omega
              refine o_baload X0 K (i := (iN + 1)) (v := (.int (g (iN + 1)))) d1_170 171 rfl e0 A_a (by omega) (by omega) (rfl) ?_
              refine o_iload X0 K d1_171 173 rfl rfl ?_
              refine o_iload X0 K d1_173 175 rfl rfl ?_
              refine o_invokestatic X0 K d1_175 178 rfl (w_10 hw) (w_11 hw) (w_4 hw) (w_12 hw) (by decide) [(.int (g (iN + 1))), (.int (144 : Int32)), (.int (191 : Int32))] [] rfl  (c_within l Z a0 hw n0 (g (iN + 1)) (144 : Int32) (191 : Int32) h0 Z0) e0 rfl (lenOf pd__BII_Z rfl) (by decide) 0 (Nat.le_of_eq rfl) (by decide) (by decide) (by decide) N0 ?_
              rintro _ T_7 h_7 locs_7 X_7 q_7 ⟨rv_7, rfl, hb_7, r_7⟩ N_7
              have e_7 := q_7.trans r_7
              show OGo p e below s n0 _ _ _ (T_7.setTop (mkF m 178 #[.val (.ref a), .val (.int i), .val (.int en), .val (.int ld), .val (.int (4 : Int32)), .val (.int (144 : Int32)), .val (.int (191 : Int32)), .unset] [(.int rv_7)]))
              rcases hb_7 with ⟨rfl, hr_rv_7⟩ | ⟨rfl, hr_rv_7⟩
              · skip
                refine o_if_ne_t X_7 K d1_178 183 (by decide) (by decide) (by decide) ?_
                refine o_iconst X_7 K (2 : Int32) d1_183 184 rfl rfl ?_
                refine o_istore X_7 K d1_184 186 rfl #[.val (.ref a), .val (.int i), .val (.int en), .val (.int ld), .val (.int (4 : Int32)), .val (.int (144 : Int32)), .val (.int (191 : Int32)), .val (.int (2 : Int32))] rfl rfl ?_
                refine o_iload X_7 K d1_186 188 rfl rfl ?_
                refine o_iload X_7 K d1_188 190 rfl rfl ?_
                refine o_icmp_ge_f X_7 K d1_190 193 rfl (by decide) ?_
                refine o_aloadN X_7 K d1_193 194 rfl rfl rfl ?_
                refine o_iloadN X_7 K d1_194 195 rfl rfl ?_
                refine o_iload X_7 K d1_195 197 rfl rfl ?_
                refine o_iadd X_7 K d1_197 198 rfl ?_
                have hk2 : (i + (2 : Int32)).toInt = i.toInt + 2 := by have q1 := c_iadd i 2; have q2 := rng32 (i + 2); omega
                refine o_baload X_7 K (i := (iN + 2)) (v := (.int (g (iN + 2)))) d1_198 199 rfl e_7 A_a (by omega) (by omega) (rfl) ?_
                refine o_sipush X_7 K (128 : Int32) d1_199 202 rfl rfl ?_
                refine o_sipush X_7 K (191 : Int32) d1_202 205 rfl rfl ?_
                refine o_invokestatic X_7 K d1_205 208 rfl (w_10 hw) (w_11 hw) (w_4 hw) (w_12 hw) (by decide) [(.int (g (iN + 2))), (.int (128 : Int32)), (.int (191 : Int32))] [] rfl  (c_within l Z a0 hw n0 (g (iN + 2)) (128 : Int32) (191 : Int32) h0 Z0) e_7 rfl (lenOf pd__BII_Z rfl) (by decide) 0 (Nat.le_of_eq rfl) (by decide) (by decide) (by decide) N_7 ?_
                rintro _ T_8 h_8 locs_8 X_8 q_8 ⟨rv_8, rfl, hb_8, r_8⟩ N_8
                have e_8 := q_8.trans r_8
                show OGo p e below s n0 _ _ _ (T_8.setTop (mkF m 208 #[.val (.ref a), .val (.int i), .val (.int en), .val (.int ld), .val (.int (4 : Int32)), .val (.int (144 : Int32)), .val (.int (191 : Int32)), .val (.int (2 : Int32))] [(.int rv_8)]))
                rcases hb_8 with ⟨rfl, hr_rv_8⟩ | ⟨rfl, hr_rv_8⟩
                · skip
                  refine o_if_ne_t X_8 K d1_208 213 (by decide) (by decide) (by decide) ?_
                  refine o_iinc X_8 K d1_213 216 rfl #[.val (.ref a), .val (.int i), .val (.int en), .val (.int ld), .val (.int (4 : Int32)), .val (.int (144 : Int32)), .val (.int (191 : Int32)), .val (.int (3 : Int32))] rfl (by decide) rfl ?_
                  refine o_goto X_8 K d1_216 186 (by decide) (by decide) ?_
                  refine o_iload X_8 K d1_186 188 rfl rfl ?_
                  refine o_iload X_8 K d1_188 190 rfl rfl ?_
                  refine o_icmp_ge_f X_8 K d1_190 193 rfl (by decide) ?_
                  refine o_aloadN X_8 K d1_193 194 rfl rfl rfl ?_
                  refine o_iloadN X_8 K d1_194 195 rfl rfl ?_
                  refine o_iload X_8 K d1_195 197 rfl rfl ?_
                  refine o_iadd X_8 K d1_197 198 rfl ?_
                  have hk3 : (i + (3 : Int32)).toInt = i.toInt + 3 := by have q1 := c_iadd i 3; have q2 := rng32 (i + 3); omega
                  refine o_baload X_8 K (i := (iN + 3)) (v := (.int (g (iN + 3)))) d1_198 199 rfl e_8 A_a (by omega) (by omega) (rfl) ?_
                  refine o_sipush X_8 K (128 : Int32) d1_199 202 rfl rfl ?_
                  refine o_sipush X_8 K (191 : Int32) d1_202 205 rfl rfl ?_
                  refine o_invokestatic X_8 K d1_205 208 rfl (w_10 hw) (w_11 hw) (w_4 hw) (w_12 hw) (by decide) [(.int (g (iN + 3))), (.int (128 : Int32)), (.int (191 : Int32))] [] rfl  (c_within l Z a0 hw n0 (g (iN + 3)) (128 : Int32) (191 : Int32) h0 Z0) e_8 rfl (lenOf pd__BII_Z rfl) (by decide) 0 (Nat.le_of_eq rfl) (by decide) (by decide) (by decide) N_8 ?_
                  rintro _ T_9 h_9 locs_9 X_9 q_9 ⟨rv_9, rfl, hb_9, r_9⟩ N_9
                  have e_9 := q_9.trans r_9
                  show OGo p e below s n0 _ _ _ (T_9.setTop (mkF m 208 #[.val (.ref a), .val (.int i), .val (.int en), .val (.int ld), .val (.int (4 : Int32)), .val (.int (144 : Int32)), .val (.int (191 : Int32)), .val (.int (3 : Int32))] [(.int rv_9)]))
                  rcases hb_9 with ⟨rfl, hr_rv_9⟩ | ⟨rfl, hr_rv_9⟩
                  · skip
                    refine o_if_ne_t X_9 K d1_208 213 (by decide) (by decide) (by decide) ?_
                    refine o_iinc X_9 K d1_213 216 rfl #[.val (.ref a), .val (.int i), .val (.int en), .val (.int ld), .val (.int (4 : Int32)), .val (.int (144 : Int32)), .val (.int (191 : Int32)), .val (.int (4 : Int32))] rfl (by decide) rfl ?_
                    refine o_goto X_9 K d1_216 186 (by decide) (by decide) ?_
                    refine o_iload X_9 K d1_186 188 rfl rfl ?_
                    refine o_iload X_9 K d1_188 190 rfl rfl ?_
                    refine o_icmp_ge_t X_9 K d1_190 219 (by decide) (by decide) (by decide) ?_
                    refine o_iload X_9 K d1_219 221 rfl rfl ?_
                    refine o_ireturn X_9 K d1_221 (by decide) (by decide) N_9 ?_
                    refine ⟨_, rfl, ?_, e_9⟩
                    clear X0 K e0 N0
                    subst h_ld
                    simp only [own_len]
                    repeat' split
                    all_goals omega
                  · skip
                    refine o_if_ne_f X_9 K d1_208 211 rfl (by decide) ?_
                    refine o_iconst X_9 K (0 : Int32) d1_211 212 rfl rfl ?_
                    refine o_ireturn X_9 K d1_212 (by decide) (by decide) N_9 ?_
                    refine ⟨_, rfl, ?_, e_9⟩
                    clear X0 K e0 N0
                    subst h_ld
                    simp only [own_len]
                    repeat' split
                    all_goals omega
                · skip
                  refine o_if_ne_f X_8 K d1_208 211 rfl (by decide) ?_
                  refine o_iconst X_8 K (0 : Int32) d1_211 212 rfl rfl ?_
                  refine o_ireturn X_8 K d1_212 (by decide) (by decide) N_8 ?_
                  refine ⟨_, rfl, ?_, e_8⟩
                  clear X0 K e0 N0
                  subst h_ld
                  simp only [own_len]
                  repeat' split
                  all_goals omega
              · skip
                refine o_if_ne_f X_7 K d1_178 181 rfl (by decide) ?_
                refine o_iconst X_7 K (0 : Int32) d1_181 182 rfl rfl ?_
                refine o_ireturn X_7 K d1_182 (by decide) (by decide) N_7 ?_
                refine ⟨_, rfl, ?_, e_7⟩
                clear X0 K e0 N0
                subst h_ld
                simp only [own_len]
                repeat' split
                all_goals omega
        · refine o_iloadN X0 K d1_81 82 rfl rfl ?_
          refine o_sipush X0 K (239 : Int32) d1_82 85 rfl rfl ?_
          refine o_icmp_gt X0 K d1_85 94 (by decide) (by decide) 88 rfl (fun hc85 => ?_) (fun hc85 => ?_)
          · refine o_iloadN X0 K d1_94 95 rfl rfl ?_
            refine o_sipush X0 K (240 : Int32) d1_95 98 rfl rfl ?_
            refine o_icmp_ne X0 K d1_98 112 (by decide) (by decide) 101 rfl (fun hc98 => ?_) (fun hc98 => ?_)
            · rw [← Int32.toInt_inj] at hc98
              refine o_iloadN X0 K d1_112 113 rfl rfl ?_
              refine o_sipush X0 K (244 : Int32) d1_113 116 rfl rfl ?_
              refine o_icmp_ne X0 K d1_116 130 (by decide) (by decide) 119 rfl (fun hc116 => ?_) (fun hc116 => ?_)
              · rw [← Int32.toInt_inj] at hc116
                refine o_iloadN X0 K d1_130 131 rfl rfl ?_
                refine o_sipush X0 K (241 : Int32) d1_131 134 rfl rfl ?_
                refine o_icmp_lt X0 K d1_134 150 (by decide) (by decide) 137 rfl (fun hc134 => ?_) (fun hc134 => ?_)
                · refine o_iconst X0 K (0 : Int32) d1_150 151 rfl rfl ?_
                  refine o_istore X0 K d1_151 153 rfl #[.val (.ref a), .val (.int i), .val (.int en), .val (.int ld), .val (.int (0 : Int32)), .val (.int (128 : Int32)), .val (.int (191 : Int32)), .unset] rfl rfl ?_
                  refine o_iload X0 K d1_153 155 rfl rfl ?_
                  refine o_if_eq_t X0 K d1_155 181 (by decide) (by decide) (by decide) ?_
                  refine o_iconst X0 K (0 : Int32) d1_181 182 rfl rfl ?_
                  refine o_ireturn X0 K d1_182 (by decide) (by decide) N0 ?_
                  refine ⟨_, rfl, ?_, e0⟩
                  clear X0 K e0 N0
                  subst h_ld
                  simp only [own_len]
                  repeat' split
                  all_goals omega
                · refine o_iloadN X0 K d1_137 138 rfl rfl ?_
                  refine o_sipush X0 K (243 : Int32) d1_138 141 rfl rfl ?_
                  refine o_icmp_gt X0 K d1_141 150 (by decide) (by decide) 144 rfl (fun hc141 => ?_) (fun hc141 => ?_)
                  · refine o_iconst X0 K (0 : Int32) d1_150 151 rfl rfl ?_
                    refine o_istore X0 K d1_151 153 rfl #[.val (.ref a), .val (.int i), .val (.int en), .val (.int ld), .val (.int (0 : Int32)), .val (.int (128 : Int32)), .val (.int (191 : Int32)), .unset] rfl rfl ?_
                    refine o_iload X0 K d1_153 155 rfl rfl ?_
                    refine o_if_eq_t X0 K d1_155 181 (by decide) (by decide) (by decide) ?_
                    refine o_iconst X0 K (0 : Int32) d1_181 182 rfl rfl ?_
                    refine o_ireturn X0 K d1_182 (by decide) (by decide) N0 ?_
                    refine ⟨_, rfl, ?_, e0⟩
                    clear X0 K e0 N0
                    subst h_ld
                    simp only [own_len]
                    repeat' split
                    all_goals omega
                  · refine o_iconst X0 K (4 : Int32) d1_144 145 rfl rfl ?_
                    refine o_istore X0 K d1_145 147 rfl #[.val (.ref a), .val (.int i), .val (.int en), .val (.int ld), .val (.int (4 : Int32)), .val (.int (128 : Int32)), .val (.int (191 : Int32)), .unset] rfl rfl ?_
                    refine o_goto X0 K d1_147 153 (by decide) (by decide) ?_
                    refine o_iload X0 K d1_153 155 rfl rfl ?_
                    refine o_if_eq_f X0 K d1_155 158 rfl (by decide) ?_
                    refine o_iloadN X0 K d1_158 159 rfl rfl ?_
                    refine o_iload X0 K d1_159 161 rfl rfl ?_
                    refine o_iadd X0 K d1_161 162 rfl ?_
                    refine o_iloadN X0 K d1_162 163 rfl rfl ?_
                    have ha4 : (i + (4 : Int32)).toInt = i.toInt + 4 := by have q1 := c_iadd i (4 : Int32); have q2 := rng32 (i + (4 : Int32)); omega
                    refine o_icmp_gt X0 K d1_163 181 (by decide) (by decide) 166 rfl (fun hc163 => ?_) (fun hc163 => ?_)
                    · refine o_iconst X0 K (0 : Int32) d1_181 182 rfl rfl ?_
                      refine o_ireturn X0 K d1_182 (by decide) (by decide) N0 ?_
                      refine ⟨_, rfl, ?_, e0⟩
                      clear X0 K e0 N0
                      subst h_ld
                      simp only [own_len]
                      repeat' split
                      all_goals omega
                    · refine o_aloadN X0 K d1_166 167 rfl rfl rfl ?_
                      refine o_iloadN X0 K d1_167 168 rfl rfl ?_
                      refine o_iconst X0 K (1 : Int32) d1_168 169 rfl rfl ?_
                      refine o_iadd X0 K d1_169 170 rfl ?_
                      have hi1 : (i + (1 : Int32)).toInt = i.toInt + 1 := by have q1 := c_iadd i 1; have q2 := rng32 (i + 1); omega
                      refine o_baload X0 K (i := (iN + 1)) (v := (.int (g (iN + 1)))) d1_170 171 rfl e0 A_a (by omega) (by omega) (rfl) ?_
                      refine o_iload X0 K d1_171 173 rfl rfl ?_
                      refine o_iload X0 K d1_173 175 rfl rfl ?_
                      refine o_invokestatic X0 K d1_175 178 rfl (w_10 hw) (w_11 hw) (w_4 hw) (w_12 hw) (by decide) [(.int (g (iN + 1))), (.int (128 : Int32)), (.int (191 : Int32))] [] rfl  (c_within l Z a0 hw n0 (g (iN + 1)) (128 : Int32) (191 : Int32) h0 Z0) e0 rfl (lenOf pd__BII_Z rfl) (by decide) 0 (Nat.le_of_eq rfl) (by decide) (by decide) (by decide) N0 ?_
                      rintro _ T_10 h_10 locs_10 X_10 q_10 ⟨rv_10, rfl, hb_10, r_10⟩ N_10
                      have e_10 := q_10.trans r_10
                      show OGo p e below s n0 _ _ _ (T_10.setTop (mkF m 178 #[.val (.ref a), .val (.int i), .val (.int en), .val (.int ld), .val (.int (4 : Int32)), .val (.int (128 : Int32)), .val (.int (191 : Int32)), .unset] [(.int rv_10)]))
                      rcases hb_10 with ⟨rfl, hr_rv_10⟩ | ⟨rfl, hr_rv_10⟩
                      · skip
                        refine o_if_ne_t X_10 K d1_178 183 (by decide) (by decide) (by decide) ?_
                        refine o_iconst X_10 K (2 : Int32) d1_183 184 rfl rfl ?_
                        refine o_istore X_10 K d1_184 186 rfl #[.val (.ref a), .val (.int i), .val (.int en), .val (.int ld), .val (.int (4 : Int32)), .val (.int (128 : Int32)), .val (.int (191 : Int32)), .val (.int (2 : Int32))] rfl rfl ?_
                        refine o_iload X_10 K d1_186 188 rfl rfl ?_
                        refine o_iload X_10 K d1_188 190 rfl rfl ?_
                        refine o_icmp_ge_f X_10 K d1_190 193 rfl (by decide) ?_
                        refine o_aloadN X_10 K d1_193 194 rfl rfl rfl ?_
                        refine o_iloadN X_10 K d1_194 195 rfl rfl ?_
                        refine o_iload X_10 K d1_195 197 rfl rfl ?_
                        refine o_iadd X_10 K d1_197 198 rfl ?_
                        have hk2 : (i + (2 : Int32)).toInt = i.toInt + 2 := by have q1 := c_iadd i 2; have q2 := rng32 (i + 2); omega
                        refine o_baload X_10 K (i := (iN + 2)) (v := (.int (g (iN + 2)))) d1_198 199 rfl e_10 A_a (by omega) (by omega) (rfl) ?_
                        refine o_sipush X_10 K (128 : Int32) d1_199 202 rfl rfl ?_
                        refine o_sipush X_10 K (191 : Int32) d1_202 205 rfl rfl ?_
                        refine o_invokestatic X_10 K d1_205 208 rfl (w_10 hw) (w_11 hw) (w_4 hw) (w_12 hw) (by decide) [(.int (g (iN + 2))), (.int (128 : Int32)), (.int (191 : Int32))] [] rfl  (c_within l Z a0 hw n0 (g (iN + 2)) (128 : Int32) (191 : Int32) h0 Z0) e_10 rfl (lenOf pd__BII_Z rfl) (by decide) 0 (Nat.le_of_eq rfl) (by decide) (by decide) (by decide) N_10 ?_
                        rintro _ T_11 h_11 locs_11 X_11 q_11 ⟨rv_11, rfl, hb_11, r_11⟩ N_11
                        have e_11 := q_11.trans r_11
                        show OGo p e below s n0 _ _ _ (T_11.setTop (mkF m 208 #[.val (.ref a), .val (.int i), .val (.int en), .val (.int ld), .val (.int (4 : Int32)), .val (.int (128 : Int32)), .val (.int (191 : Int32)), .val (.int (2 : Int32))] [(.int rv_11)]))
                        rcases hb_11 with ⟨rfl, hr_rv_11⟩ | ⟨rfl, hr_rv_11⟩
                        · skip
                          refine o_if_ne_t X_11 K d1_208 213 (by decide) (by decide) (by decide) ?_
                          refine o_iinc X_11 K d1_213 216 rfl #[.val (.ref a), .val (.int i), .val (.int en), .val (.int ld), .val (.int (4 : Int32)), .val (.int (128 : Int32)), .val (.int (191 : Int32)), .val (.int (3 : Int32))] rfl (by decide) rfl ?_
                          refine o_goto X_11 K d1_216 186 (by decide) (by decide) ?_
                          refine o_iload X_11 K d1_186 188 rfl rfl ?_
                          refine o_iload X_11 K d1_188 190 rfl rfl ?_
                          refine o_icmp_ge_f X_11 K d1_190 193 rfl (by decide) ?_
                          refine o_aloadN X_11 K d1_193 194 rfl rfl rfl ?_
                          refine o_iloadN X_11 K d1_194 195 rfl rfl ?_
                          refine o_iload X_11 K d1_195 197 rfl rfl ?_
                          refine o_iadd X_11 K d1_197 198 rfl ?_
                          have hk3 : (i + (3 : Int32)).toInt = i.toInt + 3 := by have q1 := c_iadd i 3; have q2 := rng32 (i + 3); omega
                          refine o_baload X_11 K (i := (iN + 3)) (v := (.int (g (iN + 3)))) d1_198 199 rfl e_11 A_a (by omega) (by omega) (rfl) ?_
                          refine o_sipush X_11 K (128 : Int32) d1_199 202 rfl rfl ?_
                          refine o_sipush X_11 K (191 : Int32) d1_202 205 rfl rfl ?_
                          refine o_invokestatic X_11 K d1_205 208 rfl (w_10 hw) (w_11 hw) (w_4 hw) (w_12 hw) (by decide) [(.int (g (iN + 3))), (.int (128 : Int32)), (.int (191 : Int32))] [] rfl  (c_within l Z a0 hw n0 (g (iN + 3)) (128 : Int32) (191 : Int32) h0 Z0) e_11 rfl (lenOf pd__BII_Z rfl) (by decide) 0 (Nat.le_of_eq rfl) (by decide) (by decide) (by decide) N_11 ?_
                          rintro _ T_12 h_12 locs_12 X_12 q_12 ⟨rv_12, rfl, hb_12, r_12⟩ N_12
                          have e_12 := q_12.trans r_12
                          show OGo p e below s n0 _ _ _ (T_12.setTop (mkF m 208 #[.val (.ref a), .val (.int i), .val (.int en), .val (.int ld), .val (.int (4 : Int32)), .val (.int (128 : Int32)), .val (.int (191 : Int32)), .val (.int (3 : Int32))] [(.int rv_12)]))
                          rcases hb_12 with ⟨rfl, hr_rv_12⟩ | ⟨rfl, hr_rv_12⟩
                          · skip
                            refine o_if_ne_t X_12 K d1_208 213 (by decide) (by decide) (by decide) ?_
                            refine o_iinc X_12 K d1_213 216 rfl #[.val (.ref a), .val (.int i), .val (.int en), .val (.int ld), .val (.int (4 : Int32)), .val (.int (128 : Int32)), .val (.int (191 : Int32)), .val (.int (4 : Int32))] rfl (by decide) rfl ?_
                            refine o_goto X_12 K d1_216 186 (by decide) (by decide) ?_
                            refine o_iload X_12 K d1_186 188 rfl rfl ?_
                            refine o_iload X_12 K d1_188 190 rfl rfl ?_
                            refine o_icmp_ge_t X_12 K d1_190 219 (by decide) (by decide) (by decide) ?_
                            refine o_iload X_12 K d1_219 221 rfl rfl ?_
                            refine o_ireturn X_12 K d1_221 (by decide) (by decide) N_12 ?_
                            refine ⟨_, rfl, ?_, e_12⟩
                            clear X0 K e0 N0
                            subst h_ld
                            simp only [own_len]
                            repeat' split
                            all_goals omega
                          · skip
                            refine o_if_ne_f X_12 K d1_208 211 rfl (by decide) ?_
                            refine o_iconst X_12 K (0 : Int32) d1_211 212 rfl rfl ?_
                            refine o_ireturn X_12 K d1_212 (by decide) (by decide) N_12 ?_
                            refine ⟨_, rfl, ?_, e_12⟩
                            clear X0 K e0 N0
                            subst h_ld
                            simp only [own_len]
                            repeat' split
                            all_goals omega
                        · skip
                          refine o_if_ne_f X_11 K d1_208 211 rfl (by decide) ?_
                          refine o_iconst X_11 K (0 : Int32) d1_211 212 rfl rfl ?_
                          refine o_ireturn X_11 K d1_212 (by decide) (by decide) N_11 ?_
                          refine ⟨_, rfl, ?_, e_11⟩
                          clear X0 K e0 N0
                          subst h_ld
                          simp only [own_len]
                          repeat' split
                          all_goals omega
                      · skip
                        refine o_if_ne_f X_10 K d1_178 181 rfl (by decide) ?_
                        refine o_iconst X_10 K (0 : Int32) d1_181 182 rfl rfl ?_
                        refine o_ireturn X_10 K d1_182 (by decide) (by decide) N_10 ?_
                        refine ⟨_, rfl, ?_, e_10⟩
                        clear X0 K e0 N0
                        subst h_ld
                        simp only [own_len]
                        repeat' split
                        all_goals omega
              · rw [← Int32.toInt_inj] at hc116
                refine o_iconst X0 K (4 : Int32) d1_119 120 rfl rfl ?_
                refine o_istore X0 K d1_120 122 rfl #[.val (.ref a), .val (.int i), .val (.int en), .val (.int ld), .val (.int (4 : Int32)), .val (.int (128 : Int32)), .val (.int (191 : Int32)), .unset] rfl rfl ?_
                refine o_sipush X0 K (143 : Int32) d1_122 125 rfl rfl ?_
                refine o_istore X0 K d1_125 127 rfl #[.val (.ref a), .val (.int i), .val (.int en), .val (.int ld), .val (.int (4 : Int32)), .val (.int (128 : Int32)), .val (.int (143 : Int32)), .unset] rfl rfl ?_
                refine o_goto X0 K d1_127 153 (by decide) (by decide) ?_
                refine o_iload X0 K d1_153 155 rfl rfl ?_
                refine o_if_eq_f X0 K d1_155 158 rfl (by decide) ?_
                refine o_iloadN X0 K d1_158 159 rfl rfl ?_
                refine o_iload X0 K d1_159 161 rfl rfl ?_
                refine o_iadd X0 K d1_161 162 rfl ?_
                refine o_iloadN X0 K d1_162 163 rfl rfl ?_
                have ha4 : (i + (4 : Int32)).toInt = i.toInt + 4 := by have q1 := c_iadd i (4 : Int32); have q2 := rng32 (i + (4 : Int32)); omega
                refine o_icmp_gt X0 K d1_163 181 (by decide) (by decide) 166 rfl (fun hc163 => ?_) (fun hc163 => ?_)
                · refine o_iconst X0 K (0 : Int32) d1_181 182 rfl rfl ?_
                  refine o_ireturn X0 K d1_182 (by decide) (by decide) N0 ?_
                  refine ⟨_, rfl, ?_, e0⟩
                  clear X0 K e0 N0
                  subst h_ld
                  simp only [own_len]
                  repeat' split
                  all_goals omega
                · refine o_aloadN X0 K d1_166 167 rfl rfl rfl ?_
                  refine o_iloadN X0 K d1_167 168 rfl rfl ?_
                  refine o_iconst X0 K (1 : Int32) d1_168 169 rfl rfl ?_
                  refine o_iadd X0 K d1_169 170 rfl ?_
                  have hi1 : (i + (1 : Int32)).toInt = i.toInt + 1 := by have q1 := c_iadd i 1; have q2 := rng32 (i + 1); omega
                  refine o_baload X0 K (i := (iN + 1)) (v := (.int (g (iN + 1)))) d1_170 171 rfl e0 A_a (by omega) (by omega) (rfl) ?_
                  refine o_iload X0 K d1_171 173 rfl rfl ?_
                  refine o_iload X0 K d1_173 175 rfl rfl ?_
                  refine o_invokestatic X0 K d1_175 178 rfl (w_10 hw) (w_11 hw) (w_4 hw) (w_12 hw) (by decide) [(.int (g (iN + 1))), (.int (128 : Int32)), (.int (143 : Int32))] [] rfl  (c_within l Z a0 hw n0 (g (iN + 1)) (128 : Int32) (143 : Int32) h0 Z0) e0 rfl (lenOf pd__BII_Z rfl) (by decide) 0 (Nat.le_of_eq rfl) (by decide) (by decide) (by decide) N0 ?_
                  rintro _ T_13 h_13 locs_13 X_13 q_13 ⟨rv_13, rfl, hb_13, r_13⟩ N_13
                  have e_13 := q_13.trans r_13
                  show OGo p e below s n0 _ _ _ (T_13.setTop (mkF m 178 #[.val (.ref a), .val (.int i), .val (.int en), .val (.int ld), .val (.int (4 : Int32)), .val (.int (128 : Int32)), .val (.int (143 : Int32)), .unset] [(.int rv_13)]))
                  rcases hb_13 with ⟨rfl, hr_rv_13⟩ | ⟨rfl, hr_rv_13⟩
                  · skip
                    refine o_if_ne_t X_13 K d1_178 183 (by decide) (by decide) (by decide) ?_
                    refine o_iconst X_13 K (2 : Int32) d1_183 184 rfl rfl ?_
                    refine o_istore X_13 K d1_184 186 rfl #[.val (.ref a), .val (.int i), .val (.int en), .val (.int ld), .val (.int (4 : Int32)), .val (.int (128 : Int32)), .val (.int (143 : Int32)), .val (.int (2 : Int32))] rfl rfl ?_
                    refine o_iload X_13 K d1_186 188 rfl rfl ?_
                    refine o_iload X_13 K d1_188 190 rfl rfl ?_
                    refine o_icmp_ge_f X_13 K d1_190 193 rfl (by decide) ?_
                    refine o_aloadN X_13 K d1_193 194 rfl rfl rfl ?_
                    refine o_iloadN X_13 K d1_194 195 rfl rfl ?_
                    refine o_iload X_13 K d1_195 197 rfl rfl ?_
                    refine o_iadd X_13 K d1_197 198 rfl ?_
                    have hk2 : (i + (2 : Int32)).toInt = i.toInt + 2 := by have q1 := c_iadd i 2; have q2 := rng32 (i + 2); omega
                    refine o_baload X_13 K (i := (iN + 2)) (v := (.int (g (iN + 2)))) d1_198 199 rfl e_13 A_a (by omega) (by omega) (rfl) ?_
                    refine o_sipush X_13 K (128 : Int32) d1_199 202 rfl rfl ?_
                    refine o_sipush X_13 K (191 : Int32) d1_202 205 rfl rfl ?_
                    refine o_invokestatic X_13 K d1_205 208 rfl (w_10 hw) (w_11 hw) (w_4 hw) (w_12 hw) (by decide) [(.int (g (iN + 2))), (.int (128 : Int32)), (.int (191 : Int32))] [] rfl  (c_within l Z a0 hw n0 (g (iN + 2)) (128 : Int32) (191 : Int32) h0 Z0) e_13 rfl (lenOf pd__BII_Z rfl) (by decide) 0 (Nat.le_of_eq rfl) (by decide) (by decide) (by decide) N_13 ?_
                    rintro _ T_14 h_14 locs_14 X_14 q_14 ⟨rv_14, rfl, hb_14, r_14⟩ N_14
                    have e_14 := q_14.trans r_14
                    show OGo p e below s n0 _ _ _ (T_14.setTop (mkF m 208 #[.val (.ref a), .val (.int i), .val (.int en), .val (.int ld), .val (.int (4 : Int32)), .val (.int (128 : Int32)), .val (.int (143 : Int32)), .val (.int (2 : Int32))] [(.int rv_14)]))
                    rcases hb_14 with ⟨rfl, hr_rv_14⟩ | ⟨rfl, hr_rv_14⟩
                    · skip
                      refine o_if_ne_t X_14 K d1_208 213 (by decide) (by decide) (by decide) ?_
                      refine o_iinc X_14 K d1_213 216 rfl #[.val (.ref a), .val (.int i), .val (.int en), .val (.int ld), .val (.int (4 : Int32)), .val (.int (128 : Int32)), .val (.int (143 : Int32)), .val (.int (3 : Int32))] rfl (by decide) rfl ?_
                      refine o_goto X_14 K d1_216 186 (by decide) (by decide) ?_
                      refine o_iload X_14 K d1_186 188 rfl rfl ?_
                      refine o_iload X_14 K d1_188 190 rfl rfl ?_
                      refine o_icmp_ge_f X_14 K d1_190 193 rfl (by decide) ?_
                      refine o_aloadN X_14 K d1_193 194 rfl rfl rfl ?_
                      refine o_iloadN X_14 K d1_194 195 rfl rfl ?_
                      refine o_iload X_14 K d1_195 197 rfl rfl ?_
                      refine o_iadd X_14 K d1_197 198 rfl ?_
                      have hk3 : (i + (3 : Int32)).toInt = i.toInt + 3 := by have q1 := c_iadd i 3; have q2 := rng32 (i + 3); omega
                      refine o_baload X_14 K (i := (iN + 3)) (v := (.int (g (iN + 3)))) d1_198 199 rfl e_14 A_a (by omega) (by omega) (rfl) ?_
                      refine o_sipush X_14 K (128 : Int32) d1_199 202 rfl rfl ?_
                      refine o_sipush X_14 K (191 : Int32) d1_202 205 rfl rfl ?_
                      refine o_invokestatic X_14 K d1_205 208 rfl (w_10 hw) (w_11 hw) (w_4 hw) (w_12 hw) (by decide) [(.int (g (iN + 3))), (.int (128 : Int32)), (.int (191 : Int32))] [] rfl  (c_within l Z a0 hw n0 (g (iN + 3)) (128 : Int32) (191 : Int32) h0 Z0) e_14 rfl (lenOf pd__BII_Z rfl) (by decide) 0 (Nat.le_of_eq rfl) (by decide) (by decide) (by decide) N_14 ?_
                      rintro _ T_15 h_15 locs_15 X_15 q_15 ⟨rv_15, rfl, hb_15, r_15⟩ N_15
                      have e_15 := q_15.trans r_15
                      show OGo p e below s n0 _ _ _ (T_15.setTop (mkF m 208 #[.val (.ref a), .val (.int i), .val (.int en), .val (.int ld), .val (.int (4 : Int32)), .val (.int (128 : Int32)), .val (.int (143 : Int32)), .val (.int (3 : Int32))] [(.int rv_15)]))
                      rcases hb_15 with ⟨rfl, hr_rv_15⟩ | ⟨rfl, hr_rv_15⟩
                      · skip
                        refine o_if_ne_t X_15 K d1_208 213 (by decide) (by decide) (by decide) ?_
                        refine o_iinc X_15 K d1_213 216 rfl #[.val (.ref a), .val (.int i), .val (.int en), .val (.int ld), .val (.int (4 : Int32)), .val (.int (128 : Int32)), .val (.int (143 : Int32)), .val (.int (4 : Int32))] rfl (by decide) rfl ?_
                        refine o_goto X_15 K d1_216 186 (by decide) (by decide) ?_
                        refine o_iload X_15 K d1_186 188 rfl rfl ?_
                        refine o_iload X_15 K d1_188 190 rfl rfl ?_
                        refine o_icmp_ge_t X_15 K d1_190 219 (by decide) (by decide) (by decide) ?_
                        refine o_iload X_15 K d1_219 221 rfl rfl ?_
                        refine o_ireturn X_15 K d1_221 (by decide) (by decide) N_15 ?_
                        refine ⟨_, rfl, ?_, e_15⟩
                        clear X0 K e0 N0
                        subst h_ld
                        simp only [own_len]
                        repeat' split
                        all_goals omega
                      · skip
                        refine o_if_ne_f X_15 K d1_208 211 rfl (by decide) ?_
                        refine o_iconst X_15 K (0 : Int32) d1_211 212 rfl rfl ?_
                        refine o_ireturn X_15 K d1_212 (by decide) (by decide) N_15 ?_
                        refine ⟨_, rfl, ?_, e_15⟩
                        clear X0 K e0 N0
                        subst h_ld
                        simp only [own_len]
                        repeat' split
                        all_goals omega
                    · skip
                      refine o_if_ne_f X_14 K d1_208 211 rfl (by decide) ?_
                      refine o_iconst X_14 K (0 : Int32) d1_211 212 rfl rfl ?_
                      refine o_ireturn X_14 K d1_212 (by decide) (by decide) N_14 ?_
                      refine ⟨_, rfl, ?_, e_14⟩
                      clear X0 K e0 N0
                      subst h_ld
                      simp only [own_len]
                      repeat' split
                      all_goals omega
                  · skip
                    refine o_if_ne_f X_13 K d1_178 181 rfl (by decide) ?_
                    refine o_iconst X_13 K (0 : Int32) d1_181 182 rfl rfl ?_
                    refine o_ireturn X_13 K d1_182 (by decide) (by decide) N_13 ?_
                    refine ⟨_, rfl, ?_, e_13⟩
                    clear X0 K e0 N0
                    subst h_ld
                    simp only [own_len]
                    repeat' split
                    all_goals omega
            · rw [← Int32.toInt_inj] at hc98
              refine o_iconst X0 K (4 : Int32) d1_101 102 rfl rfl ?_
              refine o_istore X0 K d1_102 104 rfl #[.val (.ref a), .val (.int i), .val (.int en), .val (.int ld), .val (.int (4 : Int32)), .val (.int (128 : Int32)), .val (.int (191 : Int32)), .unset] rfl rfl ?_
              refine o_sipush X0 K (144 : Int32) d1_104 107 rfl rfl ?_
              refine o_istore X0 K d1_107 109 rfl #[.val (.ref a), .val (.int i), .val (.int en), .val (.int ld), .val (.int (4 : Int32)), .val (.int (144 : Int32)), .val (.int (191 : Int32)), .unset] rfl rfl ?_
              refine o_goto X0 K d1_109 153 (by decide) (by decide) ?_
              refine o_iload X0 K d1_153 155 rfl rfl ?_
              refine o_if_eq_f X0 K d1_155 158 rfl (by decide) ?_
              refine o_iloadN X0 K d1_158 159 rfl rfl ?_
              refine o_iload X0 K d1_159 161 rfl rfl ?_
              refine o_iadd X0 K d1_161 162 rfl ?_
              refine o_iloadN X0 K d1_162 163 rfl rfl ?_
              have ha4 : (i + (4 : Int32)).toInt = i.toInt + 4 := by have q1 := c_iadd i (4 : Int32); have q2 := rng32 (i + (4 : Int32)); omega
              refine o_icmp_gt X0 K d1_163 181 (by decide) (by decide) 166 rfl (fun hc163 => ?_) (fun hc163 => ?_)
              · refine o_iconst X0 K (0 : Int32) d1_181 182 rfl rfl ?_
                refine o_ireturn X0 K d1_182 (by decide) (by decide) N0 ?_
                refine ⟨_, rfl, ?_, e0⟩
                clear X0 K e0 N0
                subst h_ld
                simp only [own_len]
                repeat' split
                all_goals omega
              · refine o_aloadN X0 K d1_166 167 rfl rfl rfl ?_
                refine o_iloadN X0 K d1_167 168 rfl rfl ?_
                refine o_iconst X0 K (1 : Int32) d1_168 169 rfl rfl ?_
                refine o_iadd X0 K d1_169 170 rfl ?_
                have hi1 : (i + (1 : Int32)).toInt = i.toInt + 1 := by have q1 := c_iadd i 1; have q2 := rng32 (i + 1); omega
                refine o_baload X0 K (i := (iN + 1)) (v := (.int (g (iN + 1)))) d1_170 171 rfl e0 A_a (by omega) (by omega) (rfl) ?_
                refine o_iload X0 K d1_171 173 rfl rfl ?_
                refine o_iload X0 K d1_173 175 rfl rfl ?_
                refine o_invokestatic X0 K d1_175 178 rfl (w_10 hw) (w_11 hw) (w_4 hw) (w_12 hw) (by decide) [(.int (g (iN + 1))), (.int (144 : Int32)), (.int (191 : Int32))] [] rfl  (c_within l Z a0 hw n0 (g (iN + 1)) (144 : Int32) (191 : Int32) h0 Z0) e0 rfl (lenOf pd__BII_Z rfl) (by decide) 0 (Nat.le_of_eq rfl) (by decide) (by decide) (by decide) N0 ?_
                rintro _ T_16 h_16 locs_16 X_16 q_16 ⟨rv_16, rfl, hb_16, r_16⟩ N_16
                have e_16 := q_16.trans r_16
                show OGo p e below s n0 _ _ _ (T_16.setTop (mkF m 178 #[.val (.ref a), .val (.int i), .val (.int en), .val (.int ld), .val (.int (4 : Int32)), .val (.int (144 : Int32)), .val (.int (191 : Int32)), .unset] [(.int rv_16)]))
                rcases hb_16 with ⟨rfl, hr_rv_16⟩ | ⟨rfl, hr_rv_16⟩
                · skip
                  refine o_if_ne_t X_16 K d1_178 183 (by decide) (by decide) (by decide) ?_
                  refine o_iconst X_16 K (2 : Int32) d1_183 184 rfl rfl ?_
                  refine o_istore X_16 K d1_184 186 rfl #[.val (.ref a), .val (.int i), .val (.int en), .val (.int ld), .val (.int (4 : Int32)), .val (.int (144 : Int32)), .val (.int (191 : Int32)), .val (.int (2 : Int32))] rfl rfl ?_
                  refine o_iload X_16 K d1_186 188 rfl rfl ?_
                  refine o_iload X_16 K d1_188 190 rfl rfl ?_
                  refine o_icmp_ge_f X_16 K d1_190 193 rfl (by decide) ?_
                  refine o_aloadN X_16 K d1_193 194 rfl rfl rfl ?_
                  refine o_iloadN X_16 K d1_194 195 rfl rfl ?_
                  refine o_iload X_16 K d1_195 197 rfl rfl ?_
                  refine o_iadd X_16 K d1_197 198 rfl ?_
                  have hk2 : (i + (2 : Int32)).toInt = i.toInt + 2 := by have q1 := c_iadd i 2; have q2 := rng32 (i + 2); omega
                  refine o_baload X_16 K (i := (iN + 2)) (v := (.int (g (iN + 2)))) d1_198 199 rfl e_16 A_a (by omega) (by omega) (rfl) ?_
                  refine o_sipush X_16 K (128 : Int32) d1_199 202 rfl rfl ?_
                  refine o_sipush X_16 K (191 : Int32) d1_202 205 rfl rfl ?_
                  refine o_invokestatic X_16 K d1_205 208 rfl (w_10 hw) (w_11 hw) (w_4 hw) (w_12 hw) (by decide) [(.int (g (iN + 2))), (.int (128 : Int32)), (.int (191 : Int32))] [] rfl  (c_within l Z a0 hw n0 (g (iN + 2)) (128 : Int32) (191 : Int32) h0 Z0) e_16 rfl (lenOf pd__BII_Z rfl) (by decide) 0 (Nat.le_of_eq rfl) (by decide) (by decide) (by decide) N_16 ?_
                  rintro _ T_17 h_17 locs_17 X_17 q_17 ⟨rv_17, rfl, hb_17, r_17⟩ N_17
                  have e_17 := q_17.trans r_17
                  show OGo p e below s n0 _ _ _ (T_17.setTop (mkF m 208 #[.val (.ref a), .val (.int i), .val (.int en), .val (.int ld), .val (.int (4 : Int32)), .val (.int (144 : Int32)), .val (.int (191 : Int32)), .val (.int (2 : Int32))] [(.int rv_17)]))
                  rcases hb_17 with ⟨rfl, hr_rv_17⟩ | ⟨rfl, hr_rv_17⟩
                  · skip
                    refine o_if_ne_t X_17 K d1_208 213 (by decide) (by decide) (by decide) ?_
                    refine o_iinc X_17 K d1_213 216 rfl #[.val (.ref a), .val (.int i), .val (.int en), .val (.int ld), .val (.int (4 : Int32)), .val (.int (144 : Int32)), .val (.int (191 : Int32)), .val (.int (3 : Int32))] rfl (by decide) rfl ?_
                    refine o_goto X_17 K d1_216 186 (by decide) (by decide) ?_
                    refine o_iload X_17 K d1_186 188 rfl rfl ?_
                    refine o_iload X_17 K d1_188 190 rfl rfl ?_
                    refine o_icmp_ge_f X_17 K d1_190 193 rfl (by decide) ?_
                    refine o_aloadN X_17 K d1_193 194 rfl rfl rfl ?_
                    refine o_iloadN X_17 K d1_194 195 rfl rfl ?_
                    refine o_iload X_17 K d1_195 197 rfl rfl ?_
                    refine o_iadd X_17 K d1_197 198 rfl ?_
                    have hk3 : (i + (3 : Int32)).toInt = i.toInt + 3 := by have q1 := c_iadd i 3; have q2 := rng32 (i + 3); omega
                    refine o_baload X_17 K (i := (iN + 3)) (v := (.int (g (iN + 3)))) d1_198 199 rfl e_17 A_a (by omega) (by omega) (rfl) ?_
                    refine o_sipush X_17 K (128 : Int32) d1_199 202 rfl rfl ?_
                    refine o_sipush X_17 K (191 : Int32) d1_202 205 rfl rfl ?_
                    refine o_invokestatic X_17 K d1_205 208 rfl (w_10 hw) (w_11 hw) (w_4 hw) (w_12 hw) (by decide) [(.int (g (iN + 3))), (.int (128 : Int32)), (.int (191 : Int32))] [] rfl  (c_within l Z a0 hw n0 (g (iN + 3)) (128 : Int32) (191 : Int32) h0 Z0) e_17 rfl (lenOf pd__BII_Z rfl) (by decide) 0 (Nat.le_of_eq rfl) (by decide) (by decide) (by decide) N_17 ?_
                    rintro _ T_18 h_18 locs_18 X_18 q_18 ⟨rv_18, rfl, hb_18, r_18⟩ N_18
                    have e_18 := q_18.trans r_18
                    show OGo p e below s n0 _ _ _ (T_18.setTop (mkF m 208 #[.val (.ref a), .val (.int i), .val (.int en), .val (.int ld), .val (.int (4 : Int32)), .val (.int (144 : Int32)), .val (.int (191 : Int32)), .val (.int (3 : Int32))] [(.int rv_18)]))
                    rcases hb_18 with ⟨rfl, hr_rv_18⟩ | ⟨rfl, hr_rv_18⟩
                    · skip
                      refine o_if_ne_t X_18 K d1_208 213 (by decide) (by decide) (by decide) ?_
                      refine o_iinc X_18 K d1_213 216 rfl #[.val (.ref a), .val (.int i), .val (.int en), .val (.int ld), .val (.int (4 : Int32)), .val (.int (144 : Int32)), .val (.int (191 : Int32)), .val (.int (4 : Int32))] rfl (by decide) rfl ?_
                      refine o_goto X_18 K d1_216 186 (by decide) (by decide) ?_
                      refine o_iload X_18 K d1_186 188 rfl rfl ?_
                      refine o_iload X_18 K d1_188 190 rfl rfl ?_
                      refine o_icmp_ge_t X_18 K d1_190 219 (by decide) (by decide) (by decide) ?_
                      refine o_iload X_18 K d1_219 221 rfl rfl ?_
                      refine o_ireturn X_18 K d1_221 (by decide) (by decide) N_18 ?_
                      refine ⟨_, rfl, ?_, e_18⟩
                      clear X0 K e0 N0
                      subst h_ld
                      simp only [own_len]
                      repeat' split
                      all_goals omega
                    · skip
                      refine o_if_ne_f X_18 K d1_208 211 rfl (by decide) ?_
                      refine o_iconst X_18 K (0 : Int32) d1_211 212 rfl rfl ?_
                      refine o_ireturn X_18 K d1_212 (by decide) (by decide) N_18 ?_
                      refine ⟨_, rfl, ?_, e_18⟩
                      clear X0 K e0 N0
                      subst h_ld
                      simp only [own_len]
                      repeat' split
                      all_goals omega
                  · skip
                    refine o_if_ne_f X_17 K d1_208 211 rfl (by decide) ?_
                    refine o_iconst X_17 K (0 : Int32) d1_211 212 rfl rfl ?_
                    refine o_ireturn X_17 K d1_212 (by decide) (by decide) N_17 ?_
                    refine ⟨_, rfl, ?_, e_17⟩
                    clear X0 K e0 N0
                    subst h_ld
                    simp only [own_len]
                    repeat' split
                    all_goals omega
                · skip
                  refine o_if_ne_f X_16 K d1_178 181 rfl (by decide) ?_
                  refine o_iconst X_16 K (0 : Int32) d1_181 182 rfl rfl ?_
                  refine o_ireturn X_16 K d1_182 (by decide) (by decide) N_16 ?_
                  refine ⟨_, rfl, ?_, e_16⟩
                  clear X0 K e0 N0
                  subst h_ld
                  simp only [own_len]
                  repeat' split
                  all_goals omega
          · refine o_iconst X0 K (3 : Int32) d1_88 89 rfl rfl ?_
            refine o_istore X0 K d1_89 91 rfl #[.val (.ref a), .val (.int i), .val (.int en), .val (.int ld), .val (.int (3 : Int32)), .val (.int (128 : Int32)), .val (.int (191 : Int32)), .unset] rfl rfl ?_
            refine o_goto X0 K d1_91 153 (by decide) (by decide) ?_
            refine o_iload X0 K d1_153 155 rfl rfl ?_
            refine o_if_eq_f X0 K d1_155 158 rfl (by decide) ?_
            refine o_iloadN X0 K d1_158 159 rfl rfl ?_
            refine o_iload X0 K d1_159 161 rfl rfl ?_
            refine o_iadd X0 K d1_161 162 rfl ?_
            refine o_iloadN X0 K d1_162 163 rfl rfl ?_
            have ha3 : (i + (3 : Int32)).toInt = i.toInt + 3 := by have q1 := c_iadd i (3 : Int32); have q2 := rng32 (i + (3 : Int32)); omega
            refine o_icmp_gt X0 K d1_163 181 (by decide) (by decide) 166 rfl (fun hc163 => ?_) (fun hc163 => ?_)
            · refine o_iconst X0 K (0 : Int32) d1_181 182 rfl rfl ?_
              refine o_ireturn X0 K d1_182 (by decide) (by decide) N0 ?_
              refine ⟨_, rfl, ?_, e0⟩
              clear X0 K e0 N0
              subst h_ld
              simp only [own_len]
              repeat' split
              all_goals omega
            · refine o_aloadN X0 K d1_166 167 rfl rfl rfl ?_
              refine o_iloadN X0 K d1_167 168 rfl rfl ?_
              refine o_iconst X0 K (1 : Int32) d1_168 169 rfl rfl ?_
              refine o_iadd X0 K d1_169 170 rfl ?_
              have hi1 : (i + (1 : Int32)).toInt = i.toInt + 1 := by have q1 := c_iadd i 1; have q2 := rng32 (i + 1); omega
              refine o_baload X0 K (i := (iN + 1)) (v := (.int (g (iN + 1)))) d1_170 171 rfl e0 A_a (by omega) (by omega) (rfl) ?_
              refine o_iload X0 K d1_171 173 rfl rfl ?_
              refine o_iload X0 K d1_173 175 rfl rfl ?_
              refine o_invokestatic X0 K d1_175 178 rfl (w_10 hw) (w_11 hw) (w_4 hw) (w_12 hw) (by decide) [(.int (g (iN + 1))), (.int (128 : Int32)), (.int (191 : Int32))] [] rfl  (c_within l Z a0 hw n0 (g (iN + 1)) (128 : Int32) (191 : Int32) h0 Z0) e0 rfl (lenOf pd__BII_Z rfl) (by decide) 0 (Nat.le_of_eq rfl) (by decide) (by decide) (by decide) N0 ?_
              rintro _ T_19 h_19 locs_19 X_19 q_19 ⟨rv_19, rfl, hb_19, r_19⟩ N_19
              have e_19 := q_19.trans r_19
              show OGo p e below s n0 _ _ _ (T_19.setTop (mkF m 178 #[.val (.ref a), .val (.int i), .val (.int en), .val (.int ld), .val (.int (3 : Int32)), .val (.int (128 : Int32)), .val (.int (191 : Int32)), .unset] [(.int rv_19)]))
              rcases hb_19 with ⟨rfl, hr_rv_19⟩ | ⟨rfl, hr_rv_19⟩
              · skip
                refine o_if_ne_t X_19 K d1_178 183 (by decide) (by decide) (by decide) ?_
                refine o_iconst X_19 K (2 : Int32) d1_183 184 rfl rfl ?_
                refine o_istore X_19 K d1_184 186 rfl #[.val (.ref a), .val (.int i), .val (.int en), .val (.int ld), .val (.int (3 : Int32)), .val (.int (128 : Int32)), .val (.int (191 : Int32)), .val (.int (2 : Int32))] rfl rfl ?_
                refine o_iload X_19 K d1_186 188 rfl rfl ?_
                refine o_iload X_19 K d1_188 190 rfl rfl ?_
                refine o_icmp_ge_f X_19 K d1_190 193 rfl (by decide) ?_
                refine o_aloadN X_19 K d1_193 194 rfl rfl rfl ?_
                refine o_iloadN X_19 K d1_194 195 rfl rfl ?_
                refine o_iload X_19 K d1_195 197 rfl rfl ?_
                refine o_iadd X_19 K d1_197 198 rfl ?_
                have hk2 : (i + (2 : Int32)).toInt = i.toInt + 2 := by have q1 := c_iadd i 2; have q2 := rng32 (i + 2); omega
                refine o_baload X_19 K (i := (iN + 2)) (v := (.int (g (iN + 2)))) d1_198 199 rfl e_19 A_a (by omega) (by omega) (rfl) ?_
                refine o_sipush X_19 K (128 : Int32) d1_199 202 rfl rfl ?_
                refine o_sipush X_19 K (191 : Int32) d1_202 205 rfl rfl ?_
                refine o_invokestatic X_19 K d1_205 208 rfl (w_10 hw) (w_11 hw) (w_4 hw) (w_12 hw) (by decide) [(.int (g (iN + 2))), (.int (128 : Int32)), (.int (191 : Int32))] [] rfl  (c_within l Z a0 hw n0 (g (iN + 2)) (128 : Int32) (191 : Int32) h0 Z0) e_19 rfl (lenOf pd__BII_Z rfl) (by decide) 0 (Nat.le_of_eq rfl) (by decide) (by decide) (by decide) N_19 ?_
                rintro _ T_20 h_20 locs_20 X_20 q_20 ⟨rv_20, rfl, hb_20, r_20⟩ N_20
                have e_20 := q_20.trans r_20
                show OGo p e below s n0 _ _ _ (T_20.setTop (mkF m 208 #[.val (.ref a), .val (.int i), .val (.int en), .val (.int ld), .val (.int (3 : Int32)), .val (.int (128 : Int32)), .val (.int (191 : Int32)), .val (.int (2 : Int32))] [(.int rv_20)]))
                rcases hb_20 with ⟨rfl, hr_rv_20⟩ | ⟨rfl, hr_rv_20⟩
                · skip
                  refine o_if_ne_t X_20 K d1_208 213 (by decide) (by decide) (by decide) ?_
                  refine o_iinc X_20 K d1_213 216 rfl #[.val (.ref a), .val (.int i), .val (.int en), .val (.int ld), .val (.int (3 : Int32)), .val (.int (128 : Int32)), .val (.int (191 : Int32)), .val (.int (3 : Int32))] rfl (by decide) rfl ?_
                  refine o_goto X_20 K d1_216 186 (by decide) (by decide) ?_
                  refine o_iload X_20 K d1_186 188 rfl rfl ?_
                  refine o_iload X_20 K d1_188 190 rfl rfl ?_
                  refine o_icmp_ge_t X_20 K d1_190 219 (by decide) (by decide) (by decide) ?_
                  refine o_iload X_20 K d1_219 221 rfl rfl ?_
                  refine o_ireturn X_20 K d1_221 (by decide) (by decide) N_20 ?_
                  refine ⟨_, rfl, ?_, e_20⟩
                  clear X0 K e0 N0
                  subst h_ld
                  simp only [own_len]
                  repeat' split
                  all_goals omega
                · skip
                  refine o_if_ne_f X_20 K d1_208 211 rfl (by decide) ?_
                  refine o_iconst X_20 K (0 : Int32) d1_211 212 rfl rfl ?_
                  refine o_ireturn X_20 K d1_212 (by decide) (by decide) N_20 ?_
                  refine ⟨_, rfl, ?_, e_20⟩
                  clear X0 K e0 N0
                  subst h_ld
                  simp only [own_len]
                  repeat' split
                  all_goals omega
              · skip
                refine o_if_ne_f X_19 K d1_178 181 rfl (by decide) ?_
                refine o_iconst X_19 K (0 : Int32) d1_181 182 rfl rfl ?_
                refine o_ireturn X_19 K d1_182 (by decide) (by decide) N_19 ?_
                refine ⟨_, rfl, ?_, e_19⟩
                clear X0 K e0 N0
                subst h_ld
                simp only [own_len]
                repeat' split
                all_goals omega
      · rw [← Int32.toInt_inj] at hc60
        refine o_iconst X0 K (3 : Int32) d1_63 64 rfl rfl ?_
        refine o_istore X0 K d1_64 66 rfl #[.val (.ref a), .val (.int i), .val (.int en), .val (.int ld), .val (.int (3 : Int32)), .val (.int (128 : Int32)), .val (.int (191 : Int32)), .unset] rfl rfl ?_
        refine o_sipush X0 K (159 : Int32) d1_66 69 rfl rfl ?_
        refine o_istore X0 K d1_69 71 rfl #[.val (.ref a), .val (.int i), .val (.int en), .val (.int ld), .val (.int (3 : Int32)), .val (.int (128 : Int32)), .val (.int (159 : Int32)), .unset] rfl rfl ?_
        refine o_goto X0 K d1_71 153 (by decide) (by decide) ?_
        refine o_iload X0 K d1_153 155 rfl rfl ?_
        refine o_if_eq_f X0 K d1_155 158 rfl (by decide) ?_
        refine o_iloadN X0 K d1_158 159 rfl rfl ?_
        refine o_iload X0 K d1_159 161 rfl rfl ?_
        refine o_iadd X0 K d1_161 162 rfl ?_
        refine o_iloadN X0 K d1_162 163 rfl rfl ?_
        have ha3 : (i + (3 : Int32)).toInt = i.toInt + 3 := by have q1 := c_iadd i (3 : Int32); have q2 := rng32 (i + (3 : Int32)); omega
        refine o_icmp_gt X0 K d1_163 181 (by decide) (by decide) 166 rfl (fun hc163 => ?_) (fun hc163 => ?_)
        · refine o_iconst X0 K (0 : Int32) d1_181 182 rfl rfl ?_
          refine o_ireturn X0 K d1_182 (by decide) (by decide) N0 ?_
          refine ⟨_, rfl, ?_, e0⟩
          clear X0 K e0 N0
          subst h_ld
          simp only [own_len]
          repeat' split
          all_goals omega
        · refine o_aloadN X0 K d1_166 167 rfl rfl rfl ?_
          refine o_iloadN X0 K d1_167 168 rfl rfl ?_
          refine o_iconst X0 K (1 : Int32) d1_168 169 rfl rfl ?_
          refine o_iadd X0 K d1_169 170 rfl ?_
          have hi1 : (i + (1 : Int32)).toInt = i.toInt + 1 := by have q1 := c_iadd i 1; have q2 := rng32 (i + 1); omega
          refine o_baload X0 K (i := (iN + 1)) (v := (.int (g (iN + 1)))) d1_170 171 rfl e0 A_a (by omega) (by omega) (rfl) ?_
          refine o_iload X0 K d1_171 173 rfl rfl ?_
          refine o_iload X0 K d1_173 175 rfl rfl ?_
          refine o_invokestatic X0 K d1_175 178 rfl (w_10 hw) (w_11 hw) (w_4 hw) (w_12 hw) (by decide) [(.int (g (iN + 1))), (.int (128 : Int32)), (.int (159 : Int32))] [] rfl  (c_within l Z a0 hw n0 (g (iN + 1)) (128 : Int32) (159 : Int32) h0 Z0) e0 rfl (lenOf pd__BII_Z rfl) (by decide) 0 (Nat.le_of_eq rfl) (by decide) (by decide) (by decide) N0 ?_
          rintro _ T_21 h_21 locs_21 X_21 q_21 ⟨rv_21, rfl, hb_21, r_21⟩ N_21
          have e_21 := q_21.trans r_21
          show OGo p e below s n0 _ _ _ (T_21.setTop (mkF m 178 #[.val (.ref a), .val (.int i), .val (.int en), .val (.int ld), .val (.int (3 : Int32)), .val (.int (128 : Int32)), .val (.int (159 : Int32)), .unset] [(.int rv_21)]))
          rcases hb_21 with ⟨rfl, hr_rv_21⟩ | ⟨rfl, hr_rv_21⟩
          · skip
            refine o_if_ne_t X_21 K d1_178 183 (by decide) (by decide) (by decide) ?_
            refine o_iconst X_21 K (2 : Int32) d1_183 184 rfl rfl ?_
            refine o_istore X_21 K d1_184 186 rfl #[.val (.ref a), .val (.int i), .val (.int en), .val (.int ld), .val (.int (3 : Int32)), .val (.int (128 : Int32)), .val (.int (159 : Int32)), .val (.int (2 : Int32))] rfl rfl ?_
            refine o_iload X_21 K d1_186 188 rfl rfl ?_
            refine o_iload X_21 K d1_188 190 rfl rfl ?_
            refine o_icmp_ge_f X_21 K d1_190 193 rfl (by decide) ?_
            refine o_aloadN X_21 K d1_193 194 rfl rfl rfl ?_
            refine o_iloadN X_21 K d1_194 195 rfl rfl ?_
            refine o_iload X_21 K d1_195 197 rfl rfl ?_
            refine o_iadd X_21 K d1_197 198 rfl ?_
            have hk2 : (i + (2 : Int32)).toInt = i.toInt + 2 := by have q1 := c_iadd i 2; have q2 := rng32 (i + 2); omega
            refine o_baload X_21 K (i := (iN + 2)) (v := (.int (g (iN + 2)))) d1_198 199 rfl e_21 A_a (by omega) (by omega) (rfl) ?_
            refine o_sipush X_21 K (128 : Int32) d1_199 202 rfl rfl ?_
            refine o_sipush X_21 K (191 : Int32) d1_202 205 rfl rfl ?_
            refine o_invokestatic X_21 K d1_205 208 rfl (w_10 hw) (w_11 hw) (w_4 hw) (w_12 hw) (by decide) [(.int (g (iN + 2))), (.int (128 : Int32)), (.int (191 : Int32))] [] rfl  (c_within l Z a0 hw n0 (g (iN + 2)) (128 : Int32) (191 : Int32) h0 Z0) e_21 rfl (lenOf pd__BII_Z rfl) (by decide) 0 (Nat.le_of_eq rfl) (by decide) (by decide) (by decide) N_21 ?_
            rintro _ T_22 h_22 locs_22 X_22 q_22 ⟨rv_22, rfl, hb_22, r_22⟩ N_22
            have e_22 := q_22.trans r_22
            show OGo p e below s n0 _ _ _ (T_22.setTop (mkF m 208 #[.val (.ref a), .val (.int i), .val (.int en), .val (.int ld), .val (.int (3 : Int32)), .val (.int (128 : Int32)), .val (.int (159 : Int32)), .val (.int (2 : Int32))] [(.int rv_22)]))
            rcases hb_22 with ⟨rfl, hr_rv_22⟩ | ⟨rfl, hr_rv_22⟩
            · skip
              refine o_if_ne_t X_22 K d1_208 213 (by decide) (by decide) (by decide) ?_
              refine o_iinc X_22 K d1_213 216 rfl #[.val (.ref a), .val (.int i), .val (.int en), .val (.int ld), .val (.int (3 : Int32)), .val (.int (128 : Int32)), .val (.int (159 : Int32)), .val (.int (3 : Int32))] rfl (by decide) rfl ?_
              refine o_goto X_22 K d1_216 186 (by decide) (by decide) ?_
              refine o_iload X_22 K d1_186 188 rfl rfl ?_
              refine o_iload X_22 K d1_188 190 rfl rfl ?_
              refine o_icmp_ge_t X_22 K d1_190 219 (by decide) (by decide) (by decide) ?_
              refine o_iload X_22 K d1_219 221 rfl rfl ?_
              refine o_ireturn X_22 K d1_221 (by decide) (by decide) N_22 ?_
              refine ⟨_, rfl, ?_, e_22⟩
              clear X0 K e0 N0
              subst h_ld
              simp only [own_len]
              repeat' split
              all_goals omega
            · skip
              refine o_if_ne_f X_22 K d1_208 211 rfl (by decide) ?_
              refine o_iconst X_22 K (0 : Int32) d1_211 212 rfl rfl ?_
              refine o_ireturn X_22 K d1_212 (by decide) (by decide) N_22 ?_
              refine ⟨_, rfl, ?_, e_22⟩
              clear X0 K e0 N0
              subst h_ld
              simp only [own_len]
              repeat' split
              all_goals omega
          · skip
            refine o_if_ne_f X_21 K d1_178 181 rfl (by decide) ?_
            refine o_iconst X_21 K (0 : Int32) d1_181 182 rfl rfl ?_
            refine o_ireturn X_21 K d1_182 (by decide) (by decide) N_21 ?_
            refine ⟨_, rfl, ?_, e_21⟩
            clear X0 K e0 N0
            subst h_ld
            simp only [own_len]
            repeat' split
            all_goals omega
    · rw [← Int32.toInt_inj] at hc42
      refine o_iconst X0 K (3 : Int32) d1_45 46 rfl rfl ?_
      refine o_istore X0 K d1_46 48 rfl #[.val (.ref a), .val (.int i), .val (.int en), .val (.int ld), .val (.int (3 : Int32)), .val (.int (128 : Int32)), .val (.int (191 : Int32)), .unset] rfl rfl ?_
      refine o_sipush X0 K (160 : Int32) d1_48 51 rfl rfl ?_
      refine o_istore X0 K d1_51 53 rfl #[.val (.ref a), .val (.int i), .val (.int en), .val (.int ld), .val (.int (3 : Int32)), .val (.int (160 : Int32)), .val (.int (191 : Int32)), .unset] rfl rfl ?_
      refine o_goto X0 K d1_53 153 (by decide) (by decide) ?_
      refine o_iload X0 K d1_153 155 rfl rfl ?_
      refine o_if_eq_f X0 K d1_155 158 rfl (by decide) ?_
      refine o_iloadN X0 K d1_158 159 rfl rfl ?_
      refine o_iload X0 K d1_159 161 rfl rfl ?_
      refine o_iadd X0 K d1_161 162 rfl ?_
      refine o_iloadN X0 K d1_162 163 rfl rfl ?_
      have ha3 : (i + (3 : Int32)).toInt = i.toInt + 3 := by have q1 := c_iadd i (3 : Int32); have q2 := rng32 (i + (3 : Int32)); omega
      refine o_icmp_gt X0 K d1_163 181 (by decide) (by decide) 166 rfl (fun hc163 => ?_) (fun hc163 => ?_)
      · refine o_iconst X0 K (0 : Int32) d1_181 182 rfl rfl ?_
        refine o_ireturn X0 K d1_182 (by decide) (by decide) N0 ?_
        refine ⟨_, rfl, ?_, e0⟩
        clear X0 K e0 N0
        subst h_ld
        simp only [own_len]
        repeat' split
        all_goals omega
      · refine o_aloadN X0 K d1_166 167 rfl rfl rfl ?_
        refine o_iloadN X0 K d1_167 168 rfl rfl ?_
        refine o_iconst X0 K (1 : Int32) d1_168 169 rfl rfl ?_
        refine o_iadd X0 K d1_169 170 rfl ?_
        have hi1 : (i + (1 : Int32)).toInt = i.toInt + 1 := by have q1 := c_iadd i 1; have q2 := rng32 (i + 1); omega
        refine o_baload X0 K (i := (iN + 1)) (v := (.int (g (iN + 1)))) d1_170 171 rfl e0 A_a (by omega) (by omega) (rfl) ?_
        refine o_iload X0 K d1_171 173 rfl rfl ?_
        refine o_iload X0 K d1_173 175 rfl rfl ?_
        refine o_invokestatic X0 K d1_175 178 rfl (w_10 hw) (w_11 hw) (w_4 hw) (w_12 hw) (by decide) [(.int (g (iN + 1))), (.int (160 : Int32)), (.int (191 : Int32))] [] rfl  (c_within l Z a0 hw n0 (g (iN + 1)) (160 : Int32) (191 : Int32) h0 Z0) e0 rfl (lenOf pd__BII_Z rfl) (by decide) 0 (Nat.le_of_eq rfl) (by decide) (by decide) (by decide) N0 ?_
        rintro _ T_23 h_23 locs_23 X_23 q_23 ⟨rv_23, rfl, hb_23, r_23⟩ N_23
        have e_23 := q_23.trans r_23
        show OGo p e below s n0 _ _ _ (T_23.setTop (mkF m 178 #[.val (.ref a), .val (.int i), .val (.int en), .val (.int ld), .val (.int (3 : Int32)), .val (.int (160 : Int32)), .val (.int (191 : Int32)), .unset] [(.int rv_23)]))
        rcases hb_23 with ⟨rfl, hr_rv_23⟩ | ⟨rfl, hr_rv_23⟩
        · skip
          refine o_if_ne_t X_23 K d1_178 183 (by decide) (by decide) (by decide) ?_
          refine o_iconst X_23 K (2 : Int32) d1_183 184 rfl rfl ?_
          refine o_istore X_23 K d1_184 186 rfl #[.val (.ref a), .val (.int i), .val (.int en), .val (.int ld), .val (.int (3 : Int32)), .val (.int (160 : Int32)), .val (.int (191 : Int32)), .val (.int (2 : Int32))] rfl rfl ?_
          refine o_iload X_23 K d1_186 188 rfl rfl ?_
          refine o_iload X_23 K d1_188 190 rfl rfl ?_
          refine o_icmp_ge_f X_23 K d1_190 193 rfl (by decide) ?_
          refine o_aloadN X_23 K d1_193 194 rfl rfl rfl ?_
          refine o_iloadN X_23 K d1_194 195 rfl rfl ?_
          refine o_iload X_23 K d1_195 197 rfl rfl ?_
          refine o_iadd X_23 K d1_197 198 rfl ?_
          have hk2 : (i + (2 : Int32)).toInt = i.toInt + 2 := by have q1 := c_iadd i 2; have q2 := rng32 (i + 2); omega
          refine o_baload X_23 K (i := (iN + 2)) (v := (.int (g (iN + 2)))) d1_198 199 rfl e_23 A_a (by omega) (by omega) (rfl) ?_
          refine o_sipush X_23 K (128 : Int32) d1_199 202 rfl rfl ?_
          refine o_sipush X_23 K (191 : Int32) d1_202 205 rfl rfl ?_
          refine o_invokestatic X_23 K d1_205 208 rfl (w_10 hw) (w_11 hw) (w_4 hw) (w_12 hw) (by decide) [(.int (g (iN + 2))), (.int (128 : Int32)), (.int (191 : Int32))] [] rfl  (c_within l Z a0 hw n0 (g (iN + 2)) (128 : Int32) (191 : Int32) h0 Z0) e_23 rfl (lenOf pd__BII_Z rfl) (by decide) 0 (Nat.le_of_eq rfl) (by decide) (by decide) (by decide) N_23 ?_
          rintro _ T_24 h_24 locs_24 X_24 q_24 ⟨rv_24, rfl, hb_24, r_24⟩ N_24
          have e_24 := q_24.trans r_24
          show OGo p e below s n0 _ _ _ (T_24.setTop (mkF m 208 #[.val (.ref a), .val (.int i), .val (.int en), .val (.int ld), .val (.int (3 : Int32)), .val (.int (160 : Int32)), .val (.int (191 : Int32)), .val (.int (2 : Int32))] [(.int rv_24)]))
          rcases hb_24 with ⟨rfl, hr_rv_24⟩ | ⟨rfl, hr_rv_24⟩
          · skip
            refine o_if_ne_t X_24 K d1_208 213 (by decide) (by decide) (by decide) ?_
            refine o_iinc X_24 K d1_213 216 rfl #[.val (.ref a), .val (.int i), .val (.int en), .val (.int ld), .val (.int (3 : Int32)), .val (.int (160 : Int32)), .val (.int (191 : Int32)), .val (.int (3 : Int32))] rfl (by decide) rfl ?_
            refine o_goto X_24 K d1_216 186 (by decide) (by decide) ?_
            refine o_iload X_24 K d1_186 188 rfl rfl ?_
            refine o_iload X_24 K d1_188 190 rfl rfl ?_
            refine o_icmp_ge_t X_24 K d1_190 219 (by decide) (by decide) (by decide) ?_
            refine o_iload X_24 K d1_219 221 rfl rfl ?_
            refine o_ireturn X_24 K d1_221 (by decide) (by decide) N_24 ?_
            refine ⟨_, rfl, ?_, e_24⟩
            clear X0 K e0 N0
            subst h_ld
            simp only [own_len]
            repeat' split
            all_goals omega
          · skip
            refine o_if_ne_f X_24 K d1_208 211 rfl (by decide) ?_
            refine o_iconst X_24 K (0 : Int32) d1_211 212 rfl rfl ?_
            refine o_ireturn X_24 K d1_212 (by decide) (by decide) N_24 ?_
            refine ⟨_, rfl, ?_, e_24⟩
            clear X0 K e0 N0
            subst h_ld
            simp only [own_len]
            repeat' split
            all_goals omega
        · skip
          refine o_if_ne_f X_23 K d1_178 181 rfl (by decide) ?_
          refine o_iconst X_23 K (0 : Int32) d1_181 182 rfl rfl ?_
          refine o_ireturn X_23 K d1_182 (by decide) (by decide) N_23 ?_
          refine ⟨_, rfl, ?_, e_23⟩
          clear X0 K e0 N0
          subst h_ld
          simp only [own_len]
          repeat' split
          all_goals omega
  · refine o_iloadN X0 K d1_25 26 rfl rfl ?_
    refine o_sipush X0 K (223 : Int32) d1_26 29 rfl rfl ?_
    refine o_icmp_gt X0 K d1_29 38 (by decide) (by decide) 32 rfl (fun hc29 => ?_) (fun hc29 => ?_)
    · refine o_iloadN X0 K d1_38 39 rfl rfl ?_
      refine o_sipush X0 K (224 : Int32) d1_39 42 rfl rfl ?_
      refine o_icmp_ne X0 K d1_42 56 (by decide) (by decide) 45 rfl (fun hc42 => ?_) (fun hc42 => ?_)
      · rw [← Int32.toInt_inj] at hc42
        refine o_iloadN X0 K d1_56 57 rfl rfl ?_
        refine o_sipush X0 K (237 : Int32) d1_57 60 rfl rfl ?_
        refine o_icmp_ne X0 K d1_60 74 (by decide) (by decide) 63 rfl (fun hc60 => ?_) (fun hc60 => ?_)
        · rw [← Int32.toInt_inj] at hc60
          refine o_iloadN X0 K d1_74 75 rfl rfl ?_
          refine o_sipush X0 K (225 : Int32) d1_75 78 rfl rfl ?_
          refine o_icmp_lt X0 K d1_78 94 (by decide) (by decide) 81 rfl (fun hc78 => ?_) (fun hc78 => ?_)
          · refine o_iloadN X0 K d1_94 95 rfl rfl ?_
            refine o_sipush X0 K (240 : Int32) d1_95 98 rfl rfl ?_
            refine o_icmp_ne X0 K d1_98 112 (by decide) (by decide) 101 rfl (fun hc98 => ?_) (fun hc98 => ?_)
            · rw [← Int32.toInt_inj] at hc98
              refine o_iloadN X0 K d1_112 113 rfl rfl ?_
              refine o_sipush X0 K (244 : Int32) d1_113 116 rfl rfl ?_
              refine o_icmp_ne X0 K d1_116 130 (by decide) (by decide) 119 rfl (fun hc116 => ?_) (fun hc116 => ?_)
              · rw [← Int32.toInt_inj] at hc116
                refine o_iloadN X0 K d1_130 131 rfl rfl ?_
                refine o_sipush X0 K (241 : Int32) d1_131 134 rfl rfl ?_
                refine o_icmp_lt X0 K d1_134 150 (by decide) (by decide) 137 rfl (fun hc134 => ?_) (fun hc134 => ?_)
                · refine o_iconst X0 K (0 : Int32) d1_150 151 rfl rfl ?_
                  refine o_istore X0 K d1_151 153 rfl #[.val (.ref a), .val (.int i), .val (.int en), .val (.int ld), .val (.int (0 : Int32)), .val (.int (128 : Int32)), .val (.int (191 : Int32)), .unset] rfl rfl ?_
                  refine o_iload X0 K d1_153 155 rfl rfl ?_
                  refine o_if_eq_t X0 K d1_155 181 (by decide) (by decide) (by decide) ?_
                  refine o_iconst X0 K (0 : Int32) d1_181 182 rfl rfl ?_
                  refine o_ireturn X0 K d1_182 (by decide) (by decide) N0 ?_
                  refine ⟨_, rfl, ?_, e0⟩
                  clear X0 K e0 N0
                  subst h_ld
                  simp only [own_len]
                  repeat' split
                  all_goals omega
                · refine o_iloadN X0 K d1_137 138 rfl rfl ?_
                  refine o_sipush X0 K (243 : Int32) d1_138 141 rfl rfl ?_
                  refine o_icmp_gt X0 K d1_141 150 (by decide) (by decide) 144 rfl (fun hc141 => ?_) (fun hc141 => ?_)
                  · refine o_iconst X0 K (0 : Int32) d1_150 151 rfl rfl ?_
                    refine o_istore X0 K d1_151 153 rfl #[.val (.ref a), .val (.int i), .val (.int en), .val (.int ld), .val (.int (0 : Int32)), .val (.int (128 : Int32)), .val (.int (191 : Int32)), .unset] rfl rfl ?_
                    refine o_iload X0 K d1_153 155 rfl rfl ?_
                    refine o_if_eq_t X0 K d1_155 181 (by decide) (by decide) (by decide) ?_
                    refine o_iconst X0 K (0 : Int32) d1_181 182 rfl rfl ?_
                    refine o_ireturn X0 K d1_182 (by decide) (by decide) N0 ?_
                    refine ⟨_, rfl, ?_, e0⟩
                    clear X0 K e0 N0
                    subst h_ld
                    simp only [own_len]
                    repeat' split
                    all_goals omega
                  · refine o_iconst X0 K (4 : Int32) d1_144 145 rfl rfl ?_
                    refine o_istore X0 K d1_145 147 rfl #[.val (.ref a), .val (.int i), .val (.int en), .val (.int ld), .val (.int (4 : Int32)), .val (.int (128 : Int32)), .val (.int (191 : Int32)), .unset] rfl rfl ?_
                    refine o_goto X0 K d1_147 153 (by decide) (by decide) ?_
                    refine o_iload X0 K d1_153 155 rfl rfl ?_
                    refine o_if_eq_f X0 K d1_155 158 rfl (by decide) ?_
                    refine o_iloadN X0 K d1_158 159 rfl rfl ?_
                    refine o_iload X0 K d1_159 161 rfl rfl ?_
                    refine o_iadd X0 K d1_161 162 rfl ?_
                    refine o_iloadN X0 K d1_162 163 rfl rfl ?_
                    have ha4 : (i + (4 : Int32)).toInt = i.toInt + 4 := by have q1 := c_iadd i (4 : Int32); have q2 := rng32 (i + (4 : Int32)); omega
                    refine o_icmp_gt X0 K d1_163 181 (by decide) (by decide) 166 rfl (fun hc163 => ?_) (fun hc163 => ?_)
                    · refine o_iconst X0 K (0 : Int32) d1_181 182 rfl rfl ?_
                      refine o_ireturn X0 K d1_182 (by decide) (by decide) N0 ?_
                      refine ⟨_, rfl, ?_, e0⟩
                      clear X0 K e0 N0
                      subst h_ld
                      simp only [own_len]
                      repeat' split
                      all_goals omega
                    · refine o_aloadN X0 K d1_166 167 rfl rfl rfl ?_
                      refine o_iloadN X0 K d1_167 168 rfl rfl ?_
                      refine o_iconst X0 K (1 : Int32) d1_168 169 rfl rfl ?_
                      refine o_iadd X0 K d1_169 170 rfl ?_
                      have hi1 : (i + (1 : Int32)).toInt = i.toInt + 1 := by have q1 := c_iadd i 1; have q2 := rng32 (i + 1); omega
                      refine o_baload X0 K (i := (iN + 1)) (v := (.int (g (iN + 1)))) d1_170 171 rfl e0 A_a (by omega) (by omega) (rfl) ?_
                      refine o_iload X0 K d1_171 173 rfl rfl ?_
                      refine o_iload X0 K d1_173 175 rfl rfl ?_
                      refine o_invokestatic X0 K d1_175 178 rfl (w_10 hw) (w_11 hw) (w_4 hw) (w_12 hw) (by decide) [(.int (g (iN + 1))), (.int (128 : Int32)), (.int (191 : Int32))] [] rfl  (c_within l Z a0 hw n0 (g (iN + 1)) (128 : Int32) (191 : Int32) h0 Z0) e0 rfl (lenOf pd__BII_Z rfl) (by decide) 0 (Nat.le_of_eq rfl) (by decide) (by decide) (by decide) N0 ?_
                      rintro _ T_25 h_25 locs_25 X_25 q_25 ⟨rv_25, rfl, hb_25, r_25⟩ N_25
                      have e_25 := q_25.trans r_25
                      show OGo p e below s n0 _ _ _ (T_25.setTop (mkF m 178 #[.val (.ref a), .val (.int i), .val (.int en), .val (.int ld), .val (.int (4 : Int32)), .val (.int (128 : Int32)), .val (.int (191 : Int32)), .unset] [(.int rv_25)]))
                      rcases hb_25 with ⟨rfl, hr_rv_25⟩ | ⟨rfl, hr_rv_25⟩
                      · skip
                        refine o_if_ne_t X_25 K d1_178 183 (by decide) (by decide) (by decide) ?_
                        refine o_iconst X_25 K (2 : Int32) d1_183 184 rfl rfl ?_
                        refine o_istore X_25 K d1_184 186 rfl #[.val (.ref a), .val (.int i), .val (.int en), .val (.int ld), .val (.int (4 : Int32)), .val (.int (128 : Int32)), .val (.int (191 : Int32)), .val (.int (2 : Int32))] rfl rfl ?_
                        refine o_iload X_25 K d1_186 188 rfl rfl ?_
                        refine o_iload X_25 K d1_188 190 rfl rfl ?_
                        refine o_icmp_ge_f X_25 K d1_190 193 rfl (by decide) ?_
                        refine o_aloadN X_25 K d1_193 194 rfl rfl rfl ?_
                        refine o_iloadN X_25 K d1_194 195 rfl rfl ?_
                        refine o_iload X_25 K d1_195 197 rfl rfl ?_
                        refine o_iadd X_25 K d1_197 198 rfl ?_
                        have hk2 : (i + (2 : Int32)).toInt = i.toInt + 2 := by have q1 := c_iadd i 2; have q2 := rng32 (i + 2); omega
                        refine o_baload X_25 K (i := (iN + 2)) (v := (.int (g (iN + 2)))) d1_198 199 rfl e_25 A_a (by omega) (by omega) (rfl) ?_
                        refine o_sipush X_25 K (128 : Int32) d1_199 202 rfl rfl ?_
                        refine o_sipush X_25 K (191 : Int32) d1_202 205 rfl rfl ?_
                        refine o_invokestatic X_25 K d1_205 208 rfl (w_10 hw) (w_11 hw) (w_4 hw) (w_12 hw) (by decide) [(.int (g (iN + 2))), (.int (128 : Int32)), (.int (191 : Int32))] [] rfl  (c_within l Z a0 hw n0 (g (iN + 2)) (128 : Int32) (191 : Int32) h0 Z0) e_25 rfl (lenOf pd__BII_Z rfl) (by decide) 0 (Nat.le_of_eq rfl) (by decide) (by decide) (by decide) N_25 ?_
                        rintro _ T_26 h_26 locs_26 X_26 q_26 ⟨rv_26, rfl, hb_26, r_26⟩ N_26
                        have e_26 := q_26.trans r_26
                        show OGo p e below s n0 _ _ _ (T_26.setTop (mkF m 208 #[.val (.ref a), .val (.int i), .val (.int en), .val (.int ld), .val (.int (4 : Int32)), .val (.int (128 : Int32)), .val (.int (191 : Int32)), .val (.int (2 : Int32))] [(.int rv_26)]))
                        rcases hb_26 with ⟨rfl, hr_rv_26⟩ | ⟨rfl, hr_rv_26⟩
                        · skip
                          refine o_if_ne_t X_26 K d1_208 213 (by decide) (by decide) (by decide) ?_
                          refine o_iinc X_26 K d1_213 216 rfl #[.val (.ref a), .val (.int i), .val (.int en), .val (.int ld), .val (.int (4 : Int32)), .val (.int (128 : Int32)), .val (.int (191 : Int32)), .val (.int (3 : Int32))] rfl (by decide) rfl ?_
                          refine o_goto X_26 K d1_216 186 (by decide) (by decide) ?_
                          refine o_iload X_26 K d1_186 188 rfl rfl ?_
                          refine o_iload X_26 K d1_188 190 rfl rfl ?_
                          refine o_icmp_ge_f X_26 K d1_190 193 rfl (by decide) ?_
                          refine o_aloadN X_26 K d1_193 194 rfl rfl rfl ?_
                          refine o_iloadN X_26 K d1_194 195 rfl rfl ?_
                          refine o_iload X_26 K d1_195 197 rfl rfl ?_
                          refine o_iadd X_26 K d1_197 198 rfl ?_
                          have hk3 : (i + (3 : Int32)).toInt = i.toInt + 3 := by have q1 := c_iadd i 3; have q2 := rng32 (i + 3); omega
                          refine o_baload X_26 K (i := (iN + 3)) (v := (.int (g (iN + 3)))) d1_198 199 rfl e_26 A_a (by omega) (by omega) (rfl) ?_
                          refine o_sipush X_26 K (128 : Int32) d1_199 202 rfl rfl ?_
                          refine o_sipush X_26 K (191 : Int32) d1_202 205 rfl rfl ?_
                          refine o_invokestatic X_26 K d1_205 208 rfl (w_10 hw) (w_11 hw) (w_4 hw) (w_12 hw) (by decide) [(.int (g (iN + 3))), (.int (128 : Int32)), (.int (191 : Int32))] [] rfl  (c_within l Z a0 hw n0 (g (iN + 3)) (128 : Int32) (191 : Int32) h0 Z0) e_26 rfl (lenOf pd__BII_Z rfl) (by decide) 0 (Nat.le_of_eq rfl) (by decide) (by decide) (by decide) N_26 ?_
                          rintro _ T_27 h_27 locs_27 X_27 q_27 ⟨rv_27, rfl, hb_27, r_27⟩ N_27
                          have e_27 := q_27.trans r_27
                          show OGo p e below s n0 _ _ _ (T_27.setTop (mkF m 208 #[.val (.ref a), .val (.int i), .val (.int en), .val (.int ld), .val (.int (4 : Int32)), .val (.int (128 : Int32)), .val (.int (191 : Int32)), .val (.int (3 : Int32))] [(.int rv_27)]))
                          rcases hb_27 with ⟨rfl, hr_rv_27⟩ | ⟨rfl, hr_rv_27⟩
                          · skip
                            refine o_if_ne_t X_27 K d1_208 213 (by decide) (by decide) (by decide) ?_
                            refine o_iinc X_27 K d1_213 216 rfl #[.val (.ref a), .val (.int i), .val (.int en), .val (.int ld), .val (.int (4 : Int32)), .val (.int (128 : Int32)), .val (.int (191 : Int32)), .val (.int (4 : Int32))] rfl (by decide) rfl ?_
                            refine o_goto X_27 K d1_216 186 (by decide) (by decide) ?_
                            refine o_iload X_27 K d1_186 188 rfl rfl ?_
                            refine o_iload X_27 K d1_188 190 rfl rfl ?_
                            refine o_icmp_ge_t X_27 K d1_190 219 (by decide) (by decide) (by decide) ?_
                            refine o_iload X_27 K d1_219 221 rfl rfl ?_
                            refine o_ireturn X_27 K d1_221 (by decide) (by decide) N_27 ?_
                            refine ⟨_, rfl, ?_, e_27⟩
                            clear X0 K e0 N0
                            subst h_ld
                            simp only [own_len]
                            repeat' split
                            all_goals omega
                          · skip
                            refine o_if_ne_f X_27 K d1_208 211 rfl (by decide) ?_
                            refine o_iconst X_27 K (0 : Int32) d1_211 212 rfl rfl ?_
                            refine o_ireturn X_27 K d1_212 (by decide) (by decide) N_27 ?_
                            refine ⟨_, rfl, ?_, e_27⟩
                            clear X0 K e0 N0
                            subst h_ld
                            simp only [own_len]
                            repeat' split
                            all_goals omega
                        · skip
                          refine o_if_ne_f X_26 K d1_208 211 rfl (by decide) ?_
                          refine o_iconst X_26 K (0 : Int32) d1_211 212 rfl rfl ?_
                          refine o_ireturn X_26 K d1_212 (by decide) (by decide) N_26 ?_
                          refine ⟨_, rfl, ?_, e_26⟩
                          clear X0 K e0 N0
                          subst h_ld
                          simp only [own_len]
                          repeat' split
                          all_goals omega
                      · skip
                        refine o_if_ne_f X_25 K d1_178 181 rfl (by decide) ?_
                        refine o_iconst X_25 K (0 : Int32) d1_181 182 rfl rfl ?_
                        refine o_ireturn X_25 K d1_182 (by decide) (by decide) N_25 ?_
                        refine ⟨_, rfl, ?_, e_25⟩
                        clear X0 K e0 N0
                        subst h_ld
                        simp only [own_len]
                        repeat' split
                        all_goals omega
              · rw [← Int32.toInt_inj] at hc116
                refine o_iconst X0 K (4 : Int32) d1_119 120 rfl rfl ?_
                refine o_istore X0 K d1_120 122 rfl #[.val (.ref a), .val (.int i), .val (.int en), .val (.int ld), .val (.int (4 : Int32)), .val (.int (128 : Int32)), .val (.int (191 : Int32)), .unset] rfl rfl ?_
                refine o_sipush X0 K (143 : Int32) d1_122 125 rfl rfl ?_
                refine o_istore X0 K d1_125 127 rfl #[.val (.ref a), .val (.int i), .val (.int en), .val (.int ld), .val (.int (4 : Int32)), .val (.int (128 : Int32)), .val (.int (143 : Int32)), .unset] rfl rfl ?_
                refine o_goto X0 K d1_127 153 (by decide) (by decide) ?_
                refine o_iload X0 K d1_153 155 rfl rfl ?_
                refine o_if_eq_f X0 K d1_155 158 rfl (by decide) ?_
                refine o_iloadN X0 K d1_158 159 rfl rfl ?_
                refine o_iload X0 K d1_159 161 rfl rfl ?_
                refine o_iadd X0 K d1_161 162 rfl ?_
                refine o_iloadN X0 K d1_162 163 rfl rfl ?_
                have ha4 : (i + (4 : Int32)).toInt = i.toInt + 4 := by have q1 := c_iadd i (4 : Int32); have q2 := rng32 (i + (4 : Int32)); omega
                refine o_icmp_gt X0 K d1_163 181 (by decide) (by decide) 166 rfl (fun hc163 => ?_) (fun hc163 => ?_)
                · refine o_iconst X0 K (0 : Int32) d1_181 182 rfl rfl ?_
                  refine o_ireturn X0 K d1_182 (by decide) (by decide) N0 ?_
                  refine ⟨_, rfl, ?_, e0⟩
                  clear X0 K e0 N0
                  subst h_ld
                  simp only [own_len]
                  repeat' split
                  all_goals omega
                · refine o_aloadN X0 K d1_166 167 rfl rfl rfl ?_
                  refine o_iloadN X0 K d1_167 168 rfl rfl ?_
                  refine o_iconst X0 K (1 : Int32) d1_168 169 rfl rfl ?_
                  refine o_iadd X0 K d1_169 170 rfl ?_
                  have hi1 : (i + (1 : Int32)).toInt = i.toInt + 1 := by have q1 := c_iadd i 1; have q2 := rng32 (i + 1); omega
                  refine o_baload X0 K (i := (iN + 1)) (v := (.int (g (iN + 1)))) d1_170 171 rfl e0 A_a (by omega) (by omega) (rfl) ?_
                  refine o_iload X0 K d1_171 173 rfl rfl ?_
                  refine o_iload X0 K d1_173 175 rfl rfl ?_
                  refine o_invokestatic X0 K d1_175 178 rfl (w_10 hw) (w_11 hw) (w_4 hw) (w_12 hw) (by decide) [(.int (g (iN + 1))), (.int (128 : Int32)), (.int (143 : Int32))] [] rfl  (c_within l Z a0 hw n0 (g (iN + 1)) (128 : Int32) (143 : Int32) h0 Z0) e0 rfl (lenOf pd__BII_Z rfl) (by decide) 0 (Nat.le_of_eq rfl) (by decide) (by decide) (by decide) N0 ?_
                  rintro _ T_28 h_28 locs_28 X_28 q_28 ⟨rv_28, rfl, hb_28, r_28⟩ N_28
                  have e_28 := q_28.trans r_28
                  show OGo p e below s n0 _ _ _ (T_28.setTop (mkF m 178 #[.val (.ref a), .val (.int i), .val (.int en), .val (.int ld), .val (.int (4 : Int32)), .val (.int (128 : Int32)), .val (.int (143 : Int32)), .unset] [(.int rv_28)]))
                  rcases hb_28 with ⟨rfl, hr_rv_28⟩ | ⟨rfl, hr_rv_28⟩
                  · skip
                    refine o_if_ne_t X_28 K d1_178 183 (by decide) (by decide) (by decide) ?_
                    refine o_iconst X_28 K (2 : Int32) d1_183 184 rfl rfl ?_
                    refine o_istore X_28 K d1_184 186 rfl #[.val (.ref a), .val (.int i), .val (.int en), .val (.int ld), .val (.int (4 : Int32)), .val (.int (128 : Int32)), .val (.int (143 : Int32)), .val (.int (2 : Int32))] rfl rfl ?_
                    refine o_iload X_28 K d1_186 188 rfl rfl ?_
                    refine o_iload X_28 K d1_188 190 rfl rfl ?_
                    refine o_icmp_ge_f X_28 K d1_190 193 rfl (by decide) ?_
                    refine o_aloadN X_28 K d1_193 194 rfl rfl rfl ?_
                    refine o_iloadN X_28 K d1_194 195 rfl rfl ?_
                    refine o_iload X_28 K d1_195 197 rfl rfl ?_
                    refine o_iadd X_28 K d1_197 198 rfl ?_
                    have hk2 : (i + (2 : Int32)).toInt = i.toInt + 2 := by have q1 := c_iadd i 2; have q2 := rng32 (i + 2); omega
                    refine o_baload X_28 K (i := (iN + 2)) (v := (.int (g (iN + 2)))) d1_198 199 rfl e_28 A_a (by omega) (by omega) (rfl) ?_
                    refine o_sipush X_28 K (128 : Int32) d1_199 202 rfl rfl ?_
                    refine o_sipush X_28 K (191 : Int32) d1_202 205 rfl rfl ?_
                    refine o_invokestatic X_28 K d1_205 208 rfl (w_10 hw) (w_11 hw) (w_4 hw) (w_12 hw) (by decide) [(.int (g (iN + 2))), (.int (128 : Int32)), (.int (191 : Int32))] [] rfl  (c_within l Z a0 hw n0 (g (iN + 2)) (128 : Int32) (191 : Int32) h0 Z0) e_28 rfl (lenOf pd__BII_Z rfl) (by decide) 0 (Nat.le_of_eq rfl) (by decide) (by decide) (by decide) N_28 ?_
                    rintro _ T_29 h_29 locs_29 X_29 q_29 ⟨rv_29, rfl, hb_29, r_29⟩ N_29
                    have e_29 := q_29.trans r_29
                    show OGo p e below s n0 _ _ _ (T_29.setTop (mkF m 208 #[.val (.ref a), .val (.int i), .val (.int en), .val (.int ld), .val (.int (4 : Int32)), .val (.int (128 : Int32)), .val (.int (143 : Int32)), .val (.int (2 : Int32))] [(.int rv_29)]))
                    rcases hb_29 with ⟨rfl, hr_rv_29⟩ | ⟨rfl, hr_rv_29⟩
                    · skip
                      refine o_if_ne_t X_29 K d1_208 213 (by decide) (by decide) (by decide) ?_
                      refine o_iinc X_29 K d1_213 216 rfl #[.val (.ref a), .val (.int i), .val (.int en), .val (.int ld), .val (.int (4 : Int32)), .val (.int (128 : Int32)), .val (.int (143 : Int32)), .val (.int (3 : Int32))] rfl (by decide) rfl ?_
                      refine o_goto X_29 K d1_216 186 (by decide) (by decide) ?_
                      refine o_iload X_29 K d1_186 188 rfl rfl ?_
                      refine o_iload X_29 K d1_188 190 rfl rfl ?_
                      refine o_icmp_ge_f X_29 K d1_190 193 rfl (by decide) ?_
                      refine o_aloadN X_29 K d1_193 194 rfl rfl rfl ?_
                      refine o_iloadN X_29 K d1_194 195 rfl rfl ?_
                      refine o_iload X_29 K d1_195 197 rfl rfl ?_
                      refine o_iadd X_29 K d1_197 198 rfl ?_
                      have hk3 : (i + (3 : Int32)).toInt = i.toInt + 3 := by have q1 := c_iadd i 3; have q2 := rng32 (i + 3); omega
                      refine o_baload X_29 K (i := (iN + 3)) (v := (.int (g (iN + 3)))) d1_198 199 rfl e_29 A_a (by omega) (by omega) (rfl) ?_
                      refine o_sipush X_29 K (128 : Int32) d1_199 202 rfl rfl ?_
                      refine o_sipush X_29 K (191 : Int32) d1_202 205 rfl rfl ?_
                      refine o_invokestatic X_29 K d1_205 208 rfl (w_10 hw) (w_11 hw) (w_4 hw) (w_12 hw) (by decide) [(.int (g (iN + 3))), (.int (128 : Int32)), (.int (191 : Int32))] [] rfl  (c_within l Z a0 hw n0 (g (iN + 3)) (128 : Int32) (191 : Int32) h0 Z0) e_29 rfl (lenOf pd__BII_Z rfl) (by decide) 0 (Nat.le_of_eq rfl) (by decide) (by decide) (by decide) N_29 ?_
                      rintro _ T_30 h_30 locs_30 X_30 q_30 ⟨rv_30, rfl, hb_30, r_30⟩ N_30
                      have e_30 := q_30.trans r_30
                      show OGo p e below s n0 _ _ _ (T_30.setTop (mkF m 208 #[.val (.ref a), .val (.int i), .val (.int en), .val (.int ld), .val (.int (4 : Int32)), .val (.int (128 : Int32)), .val (.int (143 : Int32)), .val (.int (3 : Int32))] [(.int rv_30)]))
                      rcases hb_30 with ⟨rfl, hr_rv_30⟩ | ⟨rfl, hr_rv_30⟩
                      · skip
                        refine o_if_ne_t X_30 K d1_208 213 (by decide) (by decide) (by decide) ?_
                        refine o_iinc X_30 K d1_213 216 rfl #[.val (.ref a), .val (.int i), .val (.int en), .val (.int ld), .val (.int (4 : Int32)), .val (.int (128 : Int32)), .val (.int (143 : Int32)), .val (.int (4 : Int32))] rfl (by decide) rfl ?_
                        refine o_goto X_30 K d1_216 186 (by decide) (by decide) ?_
                        refine o_iload X_30 K d1_186 188 rfl rfl ?_
                        refine o_iload X_30 K d1_188 190 rfl rfl ?_
                        refine o_icmp_ge_t X_30 K d1_190 219 (by decide) (by decide) (by decide) ?_
                        refine o_iload X_30 K d1_219 221 rfl rfl ?_
                        refine o_ireturn X_30 K d1_221 (by decide) (by decide) N_30 ?_
                        refine ⟨_, rfl, ?_, e_30⟩
                        clear X0 K e0 N0
                        subst h_ld
                        simp only [own_len]
                        repeat' split
                        all_goals omega
                      · skip
                        refine o_if_ne_f X_30 K d1_208 211 rfl (by decide) ?_
                        refine o_iconst X_30 K (0 : Int32) d1_211 212 rfl rfl ?_
                        refine o_ireturn X_30 K d1_212 (by decide) (by decide) N_30 ?_
                        refine ⟨_, rfl, ?_, e_30⟩
                        clear X0 K e0 N0
                        subst h_ld
                        simp only [own_len]
                        repeat' split
                        all_goals omega
                    · skip
                      refine o_if_ne_f X_29 K d1_208 211 rfl (by decide) ?_
                      refine o_iconst X_29 K (0 : Int32) d1_211 212 rfl rfl ?_
                      refine o_ireturn X_29 K d1_212 (by decide) (by decide) N_29 ?_
                      refine ⟨_, rfl, ?_, e_29⟩
                      clear X0 K e0 N0
                      subst h_ld
                      simp only [own_len]
                      repeat' split
                      all_goals omega
                  · skip
                    refine o_if_ne_f X_28 K d1_178 181 rfl (by decide) ?_
                    refine o_iconst X_28 K (0 : Int32) d1_181 182 rfl rfl ?_
                    refine o_ireturn X_28 K d1_182 (by decide) (by decide) N_28 ?_
                    refine ⟨_, rfl, ?_, e_28⟩
                    clear X0 K e0 N0
                    subst h_ld
                    simp only [own_len]
                    repeat' split
                    all_goals omega
            · rw [← Int32.toInt_inj] at hc98
              refine o_iconst X0 K (4 : Int32) d1_101 102 rfl rfl ?_
              refine o_istore X0 K d1_102 104 rfl #[.val (.ref a), .val (.int i), .val (.int en), .val (.int ld), .val (.int (4 : Int32)), .val (.int (128 : Int32)), .val (.int (191 : Int32)), .unset] rfl rfl ?_
              refine o_sipush X0 K (144 : Int32) d1_104 107 rfl rfl ?_
              refine o_istore X0 K d1_107 109 rfl #[.val (.ref a), .val (.int i), .val (.int en), .val (.int ld), .val (.int (4 : Int32)), .val (.int (144 : Int32)), .val (.int (191 : Int32)), .unset] rfl rfl ?_
              refine o_goto X0 K d1_109 153 (by decide) (by decide) ?_
              refine o_iload X0 K d1_153 155 rfl rfl ?_
              refine o_if_eq_f X0 K d1_155 158 rfl (by decide) ?_
              refine o_iloadN X0 K d1_158 159 rfl rfl ?_
              refine o_iload X0 K d1_159 161 rfl rfl ?_
              refine o_iadd X0 K d1_161 162 rfl ?_
              refine o_iloadN X0 K d1_162 163 rfl rfl ?_
              have ha4 : (i + (4 : Int32)).toInt = i.toInt + 4 := by have q1 := c_iadd i (4 : Int32); have q2 := rng32 (i + (4 : Int32)); omega
              refine o_icmp_gt X0 K d1_163 181 (by decide) (by decide) 166 rfl (fun hc163 => ?_) (fun hc163 => ?_)
              · refine o_iconst X0 K (0 : Int32) d1_181 182 rfl rfl ?_
                refine o_ireturn X0 K d1_182 (by decide) (by decide) N0 ?_
                refine ⟨_, rfl, ?_, e0⟩
                clear X0 K e0 N0
                subst h_ld
                simp only [own_len]
                repeat' split
                all_goals omega
              · refine o_aloadN X0 K d1_166 167 rfl rfl rfl ?_
                refine o_iloadN X0 K d1_167 168 rfl rfl ?_
                refine o_iconst X0 K (1 : Int32) d1_168 169 rfl rfl ?_
                refine o_iadd X0 K d1_169 170 rfl ?_
                have hi1 : (i + (1 : Int32)).toInt = i.toInt + 1 := by have q1 := c_iadd i 1; have q2 := rng32 (i + 1); omega
                refine o_baload X0 K (i := (iN + 1)) (v := (.int (g (iN + 1)))) d1_170 171 rfl e0 A_a (by omega) (by omega) (rfl) ?_
                refine o_iload X0 K d1_171 173 rfl rfl ?_
                refine o_iload X0 K d1_173 175 rfl rfl ?_
                refine o_invokestatic X0 K d1_175 178 rfl (w_10 hw) (w_11 hw) (w_4 hw) (w_12 hw) (by decide) [(.int (g (iN + 1))), (.int (144 : Int32)), (.int (191 : Int32))] [] rfl  (c_within l Z a0 hw n0 (g (iN + 1)) (144 : Int32) (191 : Int32) h0 Z0) e0 rfl (lenOf pd__BII_Z rfl) (by decide) 0 (Nat.le_of_eq rfl) (by decide) (by decide) (by decide) N0 ?_
                rintro _ T_31 h_31 locs_31 X_31 q_31 ⟨rv_31, rfl, hb_31, r_31⟩ N_31
                have e_31 := q_31.trans r_31
                show OGo p e below s n0 _ _ _ (T_31.setTop (mkF m 178 #[.val (.ref a), .val (.int i), .val (.int en), .val (.int ld), .val (.int (4 : Int32)), .val (.int (144 : Int32)), .val (.int (191 : Int32)), .unset] [(.int rv_31)]))
                rcases hb_31 with ⟨rfl, hr_rv_31⟩ | ⟨rfl, hr_rv_31⟩
                · skip
                  refine o_if_ne_t X_31 K d1_178 183 (by decide) (by decide) (by decide) ?_
                  refine o_iconst X_31 K (2 : Int32) d1_183 184 rfl rfl ?_
                  refine o_istore X_31 K d1_184 186 rfl #[.val (.ref a), .val (.int i), .val (.int en), .val (.int ld), .val (.int (4 : Int32)), .val (.int (144 : Int32)), .val (.int (191 : Int32)), .val (.int (2 : Int32))] rfl rfl ?_
                  refine o_iload X_31 K d1_186 188 rfl rfl ?_
                  refine o_iload X_31 K d1_188 190 rfl rfl ?_
                  refine o_icmp_ge_f X_31 K d1_190 193 rfl (by decide) ?_
                  refine o_aloadN X_31 K d1_193 194 rfl rfl rfl ?_
                  refine o_iloadN X_31 K d1_194 195 rfl rfl ?_
                  refine o_iload X_31 K d1_195 197 rfl rfl ?_
                  refine o_iadd X_31 K d1_197 198 rfl ?_
                  have hk2 : (i + (2 : Int32)).toInt = i.toInt + 2 := by have q1 := c_iadd i 2; have q2 := rng32 (i + 2); omega
                  refine o_baload X_31 K (i := (iN + 2)) (v := (.int (g (iN + 2)))) d1_198 199 rfl e_31 A_a (by omega) (by omega) (rfl) ?_
                  refine o_sipush X_31 K (128 : Int32) d1_199 202 rfl rfl ?_
                  refine o_sipush X_31 K (191 : Int32) d1_202 205 rfl rfl ?_
                  refine o_invokestatic X_31 K d1_205 208 rfl (w_10 hw) (w_11 hw) (w_4 hw) (w_12 hw) (by decide) [(.int (g (iN + 2))), (.int (128 : Int32)), (.int (191 : Int32))] [] rfl  (c_within l Z a0 hw n0 (g (iN + 2)) (128 : Int32) (191 : Int32) h0 Z0) e_31 rfl (lenOf pd__BII_Z rfl) (by decide) 0 (Nat.le_of_eq rfl) (by decide) (by decide) (by decide) N_31 ?_
                  rintro _ T_32 h_32 locs_32 X_32 q_32 ⟨rv_32, rfl, hb_32, r_32⟩ N_32
                  have e_32 := q_32.trans r_32
                  show OGo p e below s n0 _ _ _ (T_32.setTop (mkF m 208 #[.val (.ref a), .val (.int i), .val (.int en), .val (.int ld), .val (.int (4 : Int32)), .val (.int (144 : Int32)), .val (.int (191 : Int32)), .val (.int (2 : Int32))] [(.int rv_32)]))
                  rcases hb_32 with ⟨rfl, hr_rv_32⟩ | ⟨rfl, hr_rv_32⟩
                  · skip
                    refine o_if_ne_t X_32 K d1_208 213 (by decide) (by decide) (by decide) ?_
                    refine o_iinc X_32 K d1_213 216 rfl #[.val (.ref a), .val (.int i), .val (.int en), .val (.int ld), .val (.int (4 : Int32)), .val (.int (144 : Int32)), .val (.int (191 : Int32)), .val (.int (3 : Int32))] rfl (by decide) rfl ?_
                    refine o_goto X_32 K d1_216 186 (by decide) (by decide) ?_
                    refine o_iload X_32 K d1_186 188 rfl rfl ?_
                    refine o_iload X_32 K d1_188 190 rfl rfl ?_
                    refine o_icmp_ge_f X_32 K d1_190 193 rfl (by decide) ?_
                    refine o_aloadN X_32 K d1_193 194 rfl rfl rfl ?_
                    refine o_iloadN X_32 K d1_194 195 rfl rfl ?_
                    refine o_iload X_32 K d1_195 197 rfl rfl ?_
                    refine o_iadd X_32 K d1_197 198 rfl ?_
                    have hk3 : (i + (3 : Int32)).toInt = i.toInt + 3 := by have q1 := c_iadd i 3; have q2 := rng32 (i + 3); omega
                    refine o_baload X_32 K (i := (iN + 3)) (v := (.int (g (iN + 3)))) d1_198 199 rfl e_32 A_a (by omega) (by omega) (rfl) ?_
                    refine o_sipush X_32 K (128 : Int32) d1_199 202 rfl rfl ?_
                    refine o_sipush X_32 K (191 : Int32) d1_202 205 rfl rfl ?_
                    refine o_invokestatic X_32 K d1_205 208 rfl (w_10 hw) (w_11 hw) (w_4 hw) (w_12 hw) (by decide) [(.int (g (iN + 3))), (.int (128 : Int32)), (.int (191 : Int32))] [] rfl  (c_within l Z a0 hw n0 (g (iN + 3)) (128 : Int32) (191 : Int32) h0 Z0) e_32 rfl (lenOf pd__BII_Z rfl) (by decide) 0 (Nat.le_of_eq rfl) (by decide) (by decide) (by decide) N_32 ?_
                    rintro _ T_33 h_33 locs_33 X_33 q_33 ⟨rv_33, rfl, hb_33, r_33⟩ N_33
                    have e_33 := q_33.trans r_33
                    show OGo p e below s n0 _ _ _ (T_33.setTop (mkF m 208 #[.val (.ref a), .val (.int i), .val (.int en), .val (.int ld), .val (.int (4 : Int32)), .val (.int (144 : Int32)), .val (.int (191 : Int32)), .val (.int (3 : Int32))] [(.int rv_33)]))
                    rcases hb_33 with ⟨rfl, hr_rv_33⟩ | ⟨rfl, hr_rv_33⟩
                    · skip
                      refine o_if_ne_t X_33 K d1_208 213 (by decide) (by decide) (by decide) ?_
                      refine o_iinc X_33 K d1_213 216 rfl #[.val (.ref a), .val (.int i), .val (.int en), .val (.int ld), .val (.int (4 : Int32)), .val (.int (144 : Int32)), .val (.int (191 : Int32)), .val (.int (4 : Int32))] rfl (by decide) rfl ?_
                      refine o_goto X_33 K d1_216 186 (by decide) (by decide) ?_
                      refine o_iload X_33 K d1_186 188 rfl rfl ?_
                      refine o_iload X_33 K d1_188 190 rfl rfl ?_
                      refine o_icmp_ge_t X_33 K d1_190 219 (by decide) (by decide) (by decide) ?_
                      refine o_iload X_33 K d1_219 221 rfl rfl ?_
                      refine o_ireturn X_33 K d1_221 (by decide) (by decide) N_33 ?_
                      refine ⟨_, rfl, ?_, e_33⟩
                      clear X0 K e0 N0
                      subst h_ld
                      simp only [own_len]
                      repeat' split
                      all_goals omega
                    · skip
                      refine o_if_ne_f X_33 K d1_208 211 rfl (by decide) ?_
                      refine o_iconst X_33 K (0 : Int32) d1_211 212 rfl rfl ?_
                      refine o_ireturn X_33 K d1_212 (by decide) (by decide) N_33 ?_
                      refine ⟨_, rfl, ?_, e_33⟩
                      clear X0 K e0 N0
                      subst h_ld
                      simp only [own_len]
                      repeat' split
                      all_goals omega
                  · skip
                    refine o_if_ne_f X_32 K d1_208 211 rfl (by decide) ?_
                    refine o_iconst X_32 K (0 : Int32) d1_211 212 rfl rfl ?_
                    refine o_ireturn X_32 K d1_212 (by decide) (by decide) N_32 ?_
                    refine ⟨_, rfl, ?_, e_32⟩
                    clear X0 K e0 N0
                    subst h_ld
                    simp only [own_len]
                    repeat' split
                    all_goals omega
                · skip
                  refine o_if_ne_f X_31 K d1_178 181 rfl (by decide) ?_
                  refine o_iconst X_31 K (0 : Int32) d1_181 182 rfl rfl ?_
                  refine o_ireturn X_31 K d1_182 (by decide) (by decide) N_31 ?_
                  refine ⟨_, rfl, ?_, e_31⟩
                  clear X0 K e0 N0
                  subst h_ld
                  simp only [own_len]
                  repeat' split
                  all_goals omega
          · refine o_iloadN X0 K d1_81 82 rfl rfl ?_
            refine o_sipush X0 K (239 : Int32) d1_82 85 rfl rfl ?_
            refine o_icmp_gt X0 K d1_85 94 (by decide) (by decide) 88 rfl (fun hc85 => ?_) (fun hc85 => ?_)
            · refine o_iloadN X0 K d1_94 95 rfl rfl ?_
              refine o_sipush X0 K (240 : Int32) d1_95 98 rfl rfl ?_
              refine o_icmp_ne X0 K d1_98 112 (by decide) (by decide) 101 rfl (fun hc98 => ?_) (fun hc98 => ?_)
              · rw [← Int32.toInt_inj] at hc98
                refine o_iloadN X0 K d1_112 113 rfl rfl ?_
                refine o_sipush X0 K (244 : Int32) d1_113 116 rfl rfl ?_
                refine o_icmp_ne X0 K d1_116 130 (by decide) (by decide) 119 rfl (fun hc116 => ?_) (fun hc116 => ?_)
                · rw [← Int32.toInt_inj] at hc116
                  refine o_iloadN X0 K d1_130 131 rfl rfl ?_
                  refine o_sipush X0 K (241 : Int32) d1_131 134 rfl rfl ?_
                  refine o_icmp_lt X0 K d1_134 150 (by decide) (by decide) 137 rfl (fun hc134 => ?_) (fun hc134 => ?_)
                  · refine o_iconst X0 K (0 : Int32) d1_150 151 rfl rfl ?_
                    refine o_istore X0 K d1_151 153 rfl #[.val (.ref a), .val (.int i), .val (.int en), .val (.int ld), .val (.int (0 : Int32)), .val (.int (128 : Int32)), .val (.int (191 : Int32)), .unset] rfl rfl ?_
                    refine o_iload X0 K d1_153 155 rfl rfl ?_
                    refine o_if_eq_t X0 K d1_155 181 (by decide) (by decide) (by decide) ?_
                    refine o_iconst X0 K (0 : Int32) d1_181 182 rfl rfl ?_
                    refine o_ireturn X0 K d1_182 (by decide) (by decide) N0 ?_
                    refine ⟨_, rfl, ?_, e0⟩
                    clear X0 K e0 N0
                    subst h_ld
                    simp only [own_len]
                    repeat' split
                    all_goals omega
                  · refine o_iloadN X0 K d1_137 138 rfl rfl ?_
                    refine o_sipush X0 K (243 : Int32) d1_138 141 rfl rfl ?_
                    refine o_icmp_gt X0 K d1_141 150 (by decide) (by decide) 144 rfl (fun hc141 => ?_) (fun hc141 => ?_)
                    · refine o_iconst X0 K (0 : Int32) d1_150 151 rfl rfl ?_
                      refine o_istore X0 K d1_151 153 rfl #[.val (.ref a), .val (.int i), .val (.int en), .val (.int ld), .val (.int (0 : Int32)), .val (.int (128 : Int32)), .val (.int (191 : Int32)), .unset] rfl rfl ?_
                      refine o_iload X0 K d1_153 155 rfl rfl ?_
                      refine o_if_eq_t X0 K d1_155 181 (by decide) (by decide) (by decide) ?_
                      refine o_iconst X0 K (0 : Int32) d1_181 182 rfl rfl ?_
                      refine o_ireturn X0 K d1_182 (by decide) (by decide) N0 ?_
                      refine ⟨_, rfl, ?_, e0⟩
                      clear X0 K e0 N0
                      subst h_ld
                      simp only [own_len]
                      repeat' split
                      all_goals omega
                    · refine o_iconst X0 K (4 : Int32) d1_144 145 rfl rfl ?_
                      refine o_istore X0 K d1_145 147 rfl #[.val (.ref a), .val (.int i), .val (.int en), .val (.int ld), .val (.int (4 : Int32)), .val (.int (128 : Int32)), .val (.int (191 : Int32)), .unset] rfl rfl ?_
                      refine o_goto X0 K d1_147 153 (by decide) (by decide) ?_
                      refine o_iload X0 K d1_153 155 rfl rfl ?_
                      refine o_if_eq_f X0 K d1_155 158 rfl (by decide) ?_
                      refine o_iloadN X0 K d1_158 159 rfl rfl ?_
                      refine o_iload X0 K d1_159 161 rfl rfl ?_
                      refine o_iadd X0 K d1_161 162 rfl ?_
                      refine o_iloadN X0 K d1_162 163 rfl rfl ?_
                      have ha4 : (i + (4 : Int32)).toInt = i.toInt + 4 := by have q1 := c_iadd i (4 : Int32); have q2 := rng32 (i + (4 : Int32)); omega
                      refine o_icmp_gt X0 K d1_163 181 (by decide) (by decide) 166 rfl (fun hc163 => ?_) (fun hc163 => ?_)
                      · refine o_iconst X0 K (0 : Int32) d1_181 182 rfl rfl ?_
                        refine o_ireturn X0 K d1_182 (by decide) (by decide) N0 ?_
                        refine ⟨_, rfl, ?_, e0⟩
                        clear X0 K e0 N0
                        subst h_ld
                        simp only [own_len]
                        repeat' split
                        all_goals omega
                      · refine o_aloadN X0 K d1_166 167 rfl rfl rfl ?_
                        refine o_iloadN X0 K d1_167 168 rfl rfl ?_
                        refine o_iconst X0 K (1 : Int32) d1_168 169 rfl rfl ?_
                        refine o_iadd X0 K d1_169 170 rfl ?_
                        have hi1 : (i + (1 : Int32)).toInt = i.toInt + 1 := by have q1 := c_iadd i 1; have q2 := rng32 (i + 1); omega
                        refine o_baload X0 K (i := (iN + 1)) (v := (.int (g (iN + 1)))) d1_170 171 rfl e0 A_a (by omega) (by omega) (rfl) ?_
                        refine o_iload X0 K d1_171 173 rfl rfl ?_
                        refine o_iload X0 K d1_173 175 rfl rfl ?_
                        refine o_invokestatic X0 K d1_175 178 rfl (w_10 hw) (w_11 hw) (w_4 hw) (w_12 hw) (by decide) [(.int (g (iN + 1))), (.int (128 : Int32)), (.int (191 : Int32))] [] rfl  (c_within l Z a0 hw n0 (g (iN + 1)) (128 : Int32) (191 : Int32) h0 Z0) e0 rfl (lenOf pd__BII_Z rfl) (by decide) 0 (Nat.le_of_eq rfl) (by decide) (by decide) (by decide) N0 ?_
                        rintro _ T_34 h_34 locs_34 X_34 q_34 ⟨rv_34, rfl, hb_34, r_34⟩ N_34
                        have e_34 := q_34.trans r_34
                        show OGo p e below s n0 _ _ _ (T_34.setTop (mkF m 178 #[.val (.ref a), .val (.int i), .val (.int en), .val (.int ld), .val (.int (4 : Int32)), .val (.int (128 : Int32)), .val (.int (191 : Int32)), .unset] [(.int rv_34)]))
                        rcases hb_34 with ⟨rfl, hr_rv_34⟩ | ⟨rfl, hr_rv_34⟩
                        · skip
                          refine o_if_ne_t X_34 K d1_178 183 (by decide) (by decide) (by decide) ?_
                          refine o_iconst X_34 K (2 : Int32) d1_183 184 rfl rfl ?_
                          refine o_istore X_34 K d1_184 186 rfl #[.val (.ref a), .val (.int i), .val (.int en), .val (.int ld), .val (.int (4 : Int32)), .val (.int (128 : Int32)), .val (.int (191 : Int32)), .val (.int (2 : Int32))] rfl rfl ?_
                          refine o_iload X_34 K d1_186 188 rfl rfl ?_
                          refine o_iload X_34 K d1_188 190 rfl rfl ?_
                          refine o_icmp_ge_f X_34 K d1_190 193 rfl (by decide) ?_
                          refine o_aloadN X_34 K d1_193 194 rfl rfl rfl ?_
                          refine o_iloadN X_34 K d1_194 195 rfl rfl ?_
                          refine o_iload X_34 K d1_195 197 rfl rfl ?_
                          refine o_iadd X_34 K d1_197 198 rfl ?_
                          have hk2 : (i + (2 : Int32)).toInt = i.toInt + 2 := by have q1 := c_iadd i 2; have q2 := rng32 (i + 2); omega
                          refine o_baload X_34 K (i := (iN + 2)) (v := (.int (g (iN + 2)))) d1_198 199 rfl e_34 A_a (by omega) (by omega) (rfl) ?_
                          refine o_sipush X_34 K (128 : Int32) d1_199 202 rfl rfl ?_
                          refine o_sipush X_34 K (191 : Int32) d1_202 205 rfl rfl ?_
                          refine o_invokestatic X_34 K d1_205 208 rfl (w_10 hw) (w_11 hw) (w_4 hw) (w_12 hw) (by decide) [(.int (g (iN + 2))), (.int (128 : Int32)), (.int (191 : Int32))] [] rfl  (c_within l Z a0 hw n0 (g (iN + 2)) (128 : Int32) (191 : Int32) h0 Z0) e_34 rfl (lenOf pd__BII_Z rfl) (by decide) 0 (Nat.le_of_eq rfl) (by decide) (by decide) (by decide) N_34 ?_
                          rintro _ T_35 h_35 locs_35 X_35 q_35 ⟨rv_35, rfl, hb_35, r_35⟩ N_35
                          have e_35 := q_35.trans r_35
                          show OGo p e below s n0 _ _ _ (T_35.setTop (mkF m 208 #[.val (.ref a), .val (.int i), .val (.int en), .val (.int ld), .val (.int (4 : Int32)), .val (.int (128 : Int32)), .val (.int (191 : Int32)), .val (.int (2 : Int32))] [(.int rv_35)]))
                          rcases hb_35 with ⟨rfl, hr_rv_35⟩ | ⟨rfl, hr_rv_35⟩
                          · skip
                            refine o_if_ne_t X_35 K d1_208 213 (by decide) (by decide) (by decide) ?_
                            refine o_iinc X_35 K d1_213 216 rfl #[.val (.ref a), .val (.int i), .val (.int en), .val (.int ld), .val (.int (4 : Int32)), .val (.int (128 : Int32)), .val (.int (191 : Int32)), .val (.int (3 : Int32))] rfl (by decide) rfl ?_
                            refine o_goto X_35 K d1_216 186 (by decide) (by decide) ?_
                            refine o_iload X_35 K d1_186 188 rfl rfl ?_
                            refine o_iload X_35 K d1_188 190 rfl rfl ?_
                            refine o_icmp_ge_f X_35 K d1_190 193 rfl (by decide) ?_
                            refine o_aloadN X_35 K d1_193 194 rfl rfl rfl ?_
                            refine o_iloadN X_35 K d1_194 195 rfl rfl ?_
                            refine o_iload X_35 K d1_195 197 rfl rfl ?_
                            refine o_iadd X_35 K d1_197 198 rfl ?_
                            have hk3 : (i + (3 : Int32)).toInt = i.toInt + 3 := by have q1 := c_iadd i 3; have q2 := rng32 (i + 3); omega
                            refine o_baload X_35 K (i := (iN + 3)) (v := (.int (g (iN + 3)))) d1_198 199 rfl e_35 A_a (by omega) (by omega) (rfl) ?_
                            refine o_sipush X_35 K (128 : Int32) d1_199 202 rfl rfl ?_
                            refine o_sipush X_35 K (191 : Int32) d1_202 205 rfl rfl ?_
                            refine o_invokestatic X_35 K d1_205 208 rfl (w_10 hw) (w_11 hw) (w_4 hw) (w_12 hw) (by decide) [(.int (g (iN + 3))), (.int (128 : Int32)), (.int (191 : Int32))] [] rfl  (c_within l Z a0 hw n0 (g (iN + 3)) (128 : Int32) (191 : Int32) h0 Z0) e_35 rfl (lenOf pd__BII_Z rfl) (by decide) 0 (Nat.le_of_eq rfl) (by decide) (by decide) (by decide) N_35 ?_
                            rintro _ T_36 h_36 locs_36 X_36 q_36 ⟨rv_36, rfl, hb_36, r_36⟩ N_36
                            have e_36 := q_36.trans r_36
                            show OGo p e below s n0 _ _ _ (T_36.setTop (mkF m 208 #[.val (.ref a), .val (.int i), .val (.int en), .val (.int ld), .val (.int (4 : Int32)), .val (.int (128 : Int32)), .val (.int (191 : Int32)), .val (.int (3 : Int32))] [(.int rv_36)]))
                            rcases hb_36 with ⟨rfl, hr_rv_36⟩ | ⟨rfl, hr_rv_36⟩
                            · skip
                              refine o_if_ne_t X_36 K d1_208 213 (by decide) (by decide) (by decide) ?_
                              refine o_iinc X_36 K d1_213 216 rfl #[.val (.ref a), .val (.int i), .val (.int en), .val (.int ld), .val (.int (4 : Int32)), .val (.int (128 : Int32)), .val (.int (191 : Int32)), .val (.int (4 : Int32))] rfl (by decide) rfl ?_
                              refine o_goto X_36 K d1_216 186 (by decide) (by decide) ?_
                              refine o_iload X_36 K d1_186 188 rfl rfl ?_
                              refine o_iload X_36 K d1_188 190 rfl rfl ?_
                              refine o_icmp_ge_t X_36 K d1_190 219 (by decide) (by decide) (by decide) ?_
                              refine o_iload X_36 K d1_219 221 rfl rfl ?_
                              refine o_ireturn X_36 K d1_221 (by decide) (by decide) N_36 ?_
                              refine ⟨_, rfl, ?_, e_36⟩
                              clear X0 K e0 N0
                              subst h_ld
                              simp only [own_len]
                              repeat' split
                              all_goals omega
                            · skip
                              refine o_if_ne_f X_36 K d1_208 211 rfl (by decide) ?_
                              refine o_iconst X_36 K (0 : Int32) d1_211 212 rfl rfl ?_
                              refine o_ireturn X_36 K d1_212 (by decide) (by decide) N_36 ?_
                              refine ⟨_, rfl, ?_, e_36⟩
                              clear X0 K e0 N0
                              subst h_ld
                              simp only [own_len]
                              repeat' split
                              all_goals omega
                          · skip
                            refine o_if_ne_f X_35 K d1_208 211 rfl (by decide) ?_
                            refine o_iconst X_35 K (0 : Int32) d1_211 212 rfl rfl ?_
                            refine o_ireturn X_35 K d1_212 (by decide) (by decide) N_35 ?_
                            refine ⟨_, rfl, ?_, e_35⟩
                            clear X0 K e0 N0
                            subst h_ld
                            simp only [own_len]
                            repeat' split
                            all_goals omega
                        · skip
                          refine o_if_ne_f X_34 K d1_178 181 rfl (by decide) ?_
                          refine o_iconst X_34 K (0 : Int32) d1_181 182 rfl rfl ?_
                          refine o_ireturn X_34 K d1_182 (by decide) (by decide) N_34 ?_
                          refine ⟨_, rfl, ?_, e_34⟩
                          clear X0 K e0 N0
                          subst h_ld
                          simp only [own_len]
                          repeat' split
                          all_goals omega
                · rw [← Int32.toInt_inj] at hc116
                  refine o_iconst X0 K (4 : Int32) d1_119 120 rfl rfl ?_
                  refine o_istore X0 K d1_120 122 rfl #[.val (.ref a), .val (.int i), .val (.int en), .val (.int ld), .val (.int (4 : Int32)), .val (.int (128 : Int32)), .val (.int (191 : Int32)), .unset] rfl rfl ?_
                  refine o_sipush X0 K (143 : Int32) d1_122 125 rfl rfl ?_
                  refine o_istore X0 K d1_125 127 rfl #[.val (.ref a), .val (.int i), .val (.int en), .val (.int ld), .val (.int (4 : Int32)), .val (.int (128 : Int32)), .val (.int (143 : Int32)), .unset] rfl rfl ?_
                  refine o_goto X0 K d1_127 153 (by decide) (by decide) ?_
                  refine o_iload X0 K d1_153 155 rfl rfl ?_
                  refine o_if_eq_f X0 K d1_155 158 rfl (by decide) ?_
                  refine o_iloadN X0 K d1_158 159 rfl rfl ?_
                  refine o_iload X0 K d1_159 161 rfl rfl ?_
                  refine o_iadd X0 K d1_161 162 rfl ?_
                  refine o_iloadN X0 K d1_162 163 rfl rfl ?_
                  have ha4 : (i + (4 : Int32)).toInt = i.toInt + 4 := by have q1 := c_iadd i (4 : Int32); have q2 := rng32 (i + (4 : Int32)); omega
                  refine o_icmp_gt X0 K d1_163 181 (by decide) (by decide) 166 rfl (fun hc163 => ?_) (fun hc163 => ?_)
                  · refine o_iconst X0 K (0 : Int32) d1_181 182 rfl rfl ?_
                    refine o_ireturn X0 K d1_182 (by decide) (by decide) N0 ?_
                    refine ⟨_, rfl, ?_, e0⟩
                    clear X0 K e0 N0
                    subst h_ld
                    simp only [own_len]
                    repeat' split
                    all_goals omega
                  · refine o_aloadN X0 K d1_166 167 rfl rfl rfl ?_
                    refine o_iloadN X0 K d1_167 168 rfl rfl ?_
                    refine o_iconst X0 K (1 : Int32) d1_168 169 rfl rfl ?_
                    refine o_iadd X0 K d1_169 170 rfl ?_
                    have hi1 : (i + (1 : Int32)).toInt = i.toInt + 1 := by have q1 := c_iadd i 1; have q2 := rng32 (i + 1); omega
                    refine o_baload X0 K (i := (iN + 1)) (v := (.int (g (iN + 1)))) d1_170 171 rfl e0 A_a (by omega) (by omega) (rfl) ?_
                    refine o_iload X0 K d1_171 173 rfl rfl ?_
                    refine o_iload X0 K d1_173 175 rfl rfl ?_
                    refine o_invokestatic X0 K d1_175 178 rfl (w_10 hw) (w_11 hw) (w_4 hw) (w_12 hw) (by decide) [(.int (g (iN + 1))), (.int (128 : Int32)), (.int (143 : Int32))] [] rfl  (c_within l Z a0 hw n0 (g (iN + 1)) (128 : Int32) (143 : Int32) h0 Z0) e0 rfl (lenOf pd__BII_Z rfl) (by decide) 0 (Nat.le_of_eq rfl) (by decide) (by decide) (by decide) N0 ?_
                    rintro _ T_37 h_37 locs_37 X_37 q_37 ⟨rv_37, rfl, hb_37, r_37⟩ N_37
                    have e_37 := q_37.trans r_37
                    show OGo p e below s n0 _ _ _ (T_37.setTop (mkF m 178 #[.val (.ref a), .val (.int i), .val (.int en), .val (.int ld), .val (.int (4 : Int32)), .val (.int (128 : Int32)), .val (.int (143 : Int32)), .unset] [(.int rv_37)]))
                    rcases hb_37 with ⟨rfl, hr_rv_37⟩ | ⟨rfl, hr_rv_37⟩
                    · skip
                      refine o_if_ne_t X_37 K d1_178 183 (by decide) (by decide) (by decide) ?_
                      refine o_iconst X_37 K (2 : Int32) d1_183 184 rfl rfl ?_
                      refine o_istore X_37 K d1_184 186 rfl #[.val (.ref a), .val (.int i), .val (.int en), .val (.int ld), .val (.int (4 : Int32)), .val (.int (128 : Int32)), .val (.int (143 : Int32)), .val (.int (2 : Int32))] rfl rfl ?_
                      refine o_iload X_37 K d1_186 188 rfl rfl ?_
                      refine o_iload X_37 K d1_188 190 rfl rfl ?_
                      refine o_icmp_ge_f X_37 K d1_190 193 rfl (by decide) ?_
                      refine o_aloadN X_37 K d1_193 194 rfl rfl rfl ?_
                      refine o_iloadN X_37 K d1_194 195 rfl rfl ?_
                      refine o_iload X_37 K d1_195 197 rfl rfl ?_
                      refine o_iadd X_37 K d1_197 198 rfl ?_
                      have hk2 : (i + (2 : Int32)).toInt = i.toInt + 2 := by have q1 := c_iadd i 2; have q2 := rng32 (i + 2); omega
                      refine o_baload X_37 K (i := (iN + 2)) (v := (.int (g (iN + 2)))) d1_198 199 rfl e_37 A_a (by omega) (by omega) (rfl) ?_
                      refine o_sipush X_37 K (128 : Int32) d1_199 202 rfl rfl ?_
                      refine o_sipush X_37 K (191 : Int32) d1_202 205 rfl rfl ?_
                      refine o_invokestatic X_37 K d1_205 208 rfl (w_10 hw) (w_11 hw) (w_4 hw) (w_12 hw) (by decide) [(.int (g (iN + 2))), (.int (128 : Int32)), (.int (191 : Int32))] [] rfl  (c_within l Z a0 hw n0 (g (iN + 2)) (128 : Int32) (191 : Int32) h0 Z0) e_37 rfl (lenOf pd__BII_Z rfl) (by decide) 0 (Nat.le_of_eq rfl) (by decide) (by decide) (by decide) N_37 ?_
                      rintro _ T_38 h_38 locs_38 X_38 q_38 ⟨rv_38, rfl, hb_38, r_38⟩ N_38
                      have e_38 := q_38.trans r_38
                      show OGo p e below s n0 _ _ _ (T_38.setTop (mkF m 208 #[.val (.ref a), .val (.int i), .val (.int en), .val (.int ld), .val (.int (4 : Int32)), .val (.int (128 : Int32)), .val (.int (143 : Int32)), .val (.int (2 : Int32))] [(.int rv_38)]))
                      rcases hb_38 with ⟨rfl, hr_rv_38⟩ | ⟨rfl, hr_rv_38⟩
                      · skip
                        refine o_if_ne_t X_38 K d1_208 213 (by decide) (by decide) (by decide) ?_
                        refine o_iinc X_38 K d1_213 216 rfl #[.val (.ref a), .val (.int i), .val (.int en), .val (.int ld), .val (.int (4 : Int32)), .val (.int (128 : Int32)), .val (.int (143 : Int32)), .val (.int (3 : Int32))] rfl (by decide) rfl ?_
                        refine o_goto X_38 K d1_216 186 (by decide) (by decide) ?_
                        refine o_iload X_38 K d1_186 188 rfl rfl ?_
                        refine o_iload X_38 K d1_188 190 rfl rfl ?_
                        refine o_icmp_ge_f X_38 K d1_190 193 rfl (by decide) ?_
                        refine o_aloadN X_38 K d1_193 194 rfl rfl rfl ?_
                        refine o_iloadN X_38 K d1_194 195 rfl rfl ?_
                        refine o_iload X_38 K d1_195 197 rfl rfl ?_
                        refine o_iadd X_38 K d1_197 198 rfl ?_
                        have hk3 : (i + (3 : Int32)).toInt = i.toInt + 3 := by have q1 := c_iadd i 3; have q2 := rng32 (i + 3); omega
                        refine o_baload X_38 K (i := (iN + 3)) (v := (.int (g (iN + 3)))) d1_198 199 rfl e_38 A_a (by omega) (by omega) (rfl) ?_
                        refine o_sipush X_38 K (128 : Int32) d1_199 202 rfl rfl ?_
                        refine o_sipush X_38 K (191 : Int32) d1_202 205 rfl rfl ?_
                        refine o_invokestatic X_38 K d1_205 208 rfl (w_10 hw) (w_11 hw) (w_4 hw) (w_12 hw) (by decide) [(.int (g (iN + 3))), (.int (128 : Int32)), (.int (191 : Int32))] [] rfl  (c_within l Z a0 hw n0 (g (iN + 3)) (128 : Int32) (191 : Int32) h0 Z0) e_38 rfl (lenOf pd__BII_Z rfl) (by decide) 0 (Nat.le_of_eq rfl) (by decide) (by decide) (by decide) N_38 ?_
                        rintro _ T_39 h_39 locs_39 X_39 q_39 ⟨rv_39, rfl, hb_39, r_39⟩ N_39
                        have e_39 := q_39.trans r_39
                        show OGo p e below s n0 _ _ _ (T_39.setTop (mkF m 208 #[.val (.ref a), .val (.int i), .val (.int en), .val (.int ld), .val (.int (4 : Int32)), .val (.int (128 : Int32)), .val (.int (143 : Int32)), .val (.int (3 : Int32))] [(.int rv_39)]))
                        rcases hb_39 with ⟨rfl, hr_rv_39⟩ | ⟨rfl, hr_rv_39⟩
                        · skip
                          refine o_if_ne_t X_39 K d1_208 213 (by decide) (by decide) (by decide) ?_
                          refine o_iinc X_39 K d1_213 216 rfl #[.val (.ref a), .val (.int i), .val (.int en), .val (.int ld), .val (.int (4 : Int32)), .val (.int (128 : Int32)), .val (.int (143 : Int32)), .val (.int (4 : Int32))] rfl (by decide) rfl ?_
                          refine o_goto X_39 K d1_216 186 (by decide) (by decide) ?_
                          refine o_iload X_39 K d1_186 188 rfl rfl ?_
                          refine o_iload X_39 K d1_188 190 rfl rfl ?_
                          refine o_icmp_ge_t X_39 K d1_190 219 (by decide) (by decide) (by decide) ?_
                          refine o_iload X_39 K d1_219 221 rfl rfl ?_
                          refine o_ireturn X_39 K d1_221 (by decide) (by decide) N_39 ?_
                          refine ⟨_, rfl, ?_, e_39⟩
                          clear X0 K e0 N0
                          subst h_ld
                          simp only [own_len]
                          repeat' split
                          all_goals omega
                        · skip
                          refine o_if_ne_f X_39 K d1_208 211 rfl (by decide) ?_
                          refine o_iconst X_39 K (0 : Int32) d1_211 212 rfl rfl ?_
                          refine o_ireturn X_39 K d1_212 (by decide) (by decide) N_39 ?_
                          refine ⟨_, rfl, ?_, e_39⟩
                          clear X0 K e0 N0
                          subst h_ld
                          simp only [own_len]
                          repeat' split
                          all_goals omega
                      · skip
                        refine o_if_ne_f X_38 K d1_208 211 rfl (by decide) ?_
                        refine o_iconst X_38 K (0 : Int32) d1_211 212 rfl rfl ?_
                        refine o_ireturn X_38 K d1_212 (by decide) (by decide) N_38 ?_
                        refine ⟨_, rfl, ?_, e_38⟩
                        clear X0 K e0 N0
                        subst h_ld
                        simp only [own_len]
                        repeat' split
                        all_goals omega
                    · skip
                      refine o_if_ne_f X_37 K d1_178 181 rfl (by decide) ?_
                      refine o_iconst X_37 K (0 : Int32) d1_181 182 rfl rfl ?_
                      refine o_ireturn X_37 K d1_182 (by decide) (by decide) N_37 ?_
                      refine ⟨_, rfl, ?_, e_37⟩
                      clear X0 K e0 N0
                      subst h_ld
                      simp only [own_len]
                      repeat' split
                      all_goals omega
              · rw [← Int32.toInt_inj] at hc98
                refine o_iconst X0 K (4 : Int32) d1_101 102 rfl rfl ?_
                refine o_istore X0 K d1_102 104 rfl #[.val (.ref a), .val (.int i), .val (.int en), .val (.int ld), .val (.int (4 : Int32)), .val (.int (128 : Int32)), .val (.int (191 : Int32)), .unset] rfl rfl ?_
                refine o_sipush X0 K (144 : Int32) d1_104 107 rfl rfl ?_
                refine o_istore X0 K d1_107 109 rfl #[.val (.ref a), .val (.int i), .val (.int en), .val (.int ld), .val (.int (4 : Int32)), .val (.int (144 : Int32)), .val (.int (191 : Int32)), .unset] rfl rfl ?_
                refine o_goto X0 K d1_109 153 (by decide) (by decide) ?_
                refine o_iload X0 K d1_153 155 rfl rfl ?_
                refine o_if_eq_f X0 K d1_155 158 rfl (by decide) ?_
                refine o_iloadN X0 K d1_158 159 rfl rfl ?_
                refine o_iload X0 K d1_159 161 rfl rfl ?_
                refine o_iadd X0 K d1_161 162 rfl ?_
                refine o_iloadN X0 K d1_162 163 rfl rfl ?_
                have ha4 : (i + (4 : Int32)).toInt = i.toInt + 4 := by have q1 := c_iadd i (4 : Int32); have q2 := rng32 (i + (4 : Int32)); omega
                refine o_icmp_gt X0 K d1_163 181 (by decide) (by decide) 166 rfl (fun hc163 => ?_) (fun hc163 => ?_)
                · refine o_iconst X0 K (0 : Int32) d1_181 182 rfl rfl ?_
                  refine o_ireturn X0 K d1_182 (by decide) (by decide) N0 ?_
                  refine ⟨_, rfl, ?_, e0⟩
                  clear X0 K e0 N0
                  subst h_ld
                  simp only [own_len]
                  repeat' split
                  all_goals omega
                · refine o_aloadN X0 K d1_166 167 rfl rfl rfl ?_
                  refine o_iloadN X0 K d1_167 168 rfl rfl ?_
                  refine o_iconst X0 K (1 : Int32) d1_168 169 rfl rfl ?_
                  refine o_iadd X0 K d1_169 170 rfl ?_
                  have hi1 : (i + (1 : Int32)).toInt = i.toInt + 1 := by have q1 := c_iadd i 1; have q2 := rng32 (i + 1); omega
                  refine o_baload X0 K (i := (iN + 1)) (v := (.int (g (iN + 1)))) d1_170 171 rfl e0 A_a (by omega) (by omega) (rfl) ?_
                  refine o_iload X0 K d1_171 173 rfl rfl ?_
                  refine o_iload X0 K d1_173 175 rfl rfl ?_
                  refine o_invokestatic X0 K d1_175 178 rfl (w_10 hw) (w_11 hw) (w_4 hw) (w_12 hw) (by decide) [(.int (g (iN + 1))), (.int (144 : Int32)), (.int (191 : Int32))] [] rfl  (c_within l Z a0 hw n0 (g (iN + 1)) (144 : Int32) (191 : Int32) h0 Z0) e0 rfl (lenOf pd__BII_Z rfl) (by decide) 0 (Nat.le_of_eq rfl) (by decide) (by decide) (by decide) N0 ?_
                  rintro _ T_40 h_40 locs_40 X_40 q_40 ⟨rv_40, rfl, hb_40, r_40⟩ N_40
                  have e_40 := q_40.trans r_40
                  show OGo p e below s n0 _ _ _ (T_40.setTop (mkF m 178 #[.val (.ref a), .val (.int i), .val (.int en), .val (.int ld), .val (.int (4 : Int32)), .val (.int (144 : Int32)), .val (.int (191 : Int32)), .unset] [(.int rv_40)]))
                  rcases hb_40 with ⟨rfl, hr_rv_40⟩ | ⟨rfl, hr_rv_40⟩
                  · skip
                    refine o_if_ne_t X_40 K d1_178 183 (by decide) (by decide) (by decide) ?_
                    refine o_iconst X_40 K (2 : Int32) d1_183 184 rfl rfl ?_
                    refine o_istore X_40 K d1_184 186 rfl #[.val (.ref a), .val (.int i), .val (.int en), .val (.int ld), .val (.int (4 : Int32)), .val (.int (144 : Int32)), .val (.int (191 : Int32)), .val (.int (2 : Int32))] rfl rfl ?_
                    refine o_iload X_40 K d1_186 188 rfl rfl ?_
                    refine o_iload X_40 K d1_188 190 rfl rfl ?_
                    refine o_icmp_ge_f X_40 K d1_190 193 rfl (by decide) ?_
                    refine o_aloadN X_40 K d1_193 194 rfl rfl rfl ?_
                    refine o_iloadN X_40 K d1_194 195 rfl rfl ?_
                    refine o_iload X_40 K d1_195 197 rfl rfl ?_
                    refine o_iadd X_40 K d1_197 198 rfl ?_
                    have hk2 : (i + (2 : Int32)).toInt = i.toInt + 2 := by have q1 := c_iadd i 2; have q2 := rng32 (i + 2); omega
                    refine o_baload X_40 K (i := (iN + 2)) (v := (.int (g (iN + 2)))) d1_198 199 rfl e_40 A_a (by omega) (by omega) (rfl) ?_
                    refine o_sipush X_40 K (128 : Int32) d1_199 202 rfl rfl ?_
                    refine o_sipush X_40 K (191 : Int32) d1_202 205 rfl rfl ?_
                    refine o_invokestatic X_40 K d1_205 208 rfl (w_10 hw) (w_11 hw) (w_4 hw) (w_12 hw) (by decide) [(.int (g (iN + 2))), (.int (128 : Int32)), (.int (191 : Int32))] [] rfl  (c_within l Z a0 hw n0 (g (iN + 2)) (128 : Int32) (191 : Int32) h0 Z0) e_40 rfl (lenOf pd__BII_Z rfl) (by decide) 0 (Nat.le_of_eq rfl) (by decide) (by decide) (by decide) N_40 ?_
                    rintro _ T_41 h_41 locs_41 X_41 q_41 ⟨rv_41, rfl, hb_41, r_41⟩ N_41
                    have e_41 := q_41.trans r_41
                    show OGo p e below s n0 _ _ _ (T_41.setTop (mkF m 208 #[.val (.ref a), .val (.int i), .val (.int en), .val (.int ld), .val (.int (4 : Int32)), .val (.int (144 : Int32)), .val (.int (191 : Int32)), .val (.int (2 : Int32))] [(.int rv_41)]))
                    rcases hb_41 with ⟨rfl, hr_rv_41⟩ | ⟨rfl, hr_rv_41⟩
                    · skip
                      refine o_if_ne_t X_41 K d1_208 213 (by decide) (by decide) (by decide) ?_
                      refine o_iinc X_41 K d1_213 216 rfl #[.val (.ref a), .val (.int i), .val (.int en), .val (.int ld), .val (.int (4 : Int32)), .val (.int (144 : Int32)), .val (.int (191 : Int32)), .val (.int (3 : Int32))] rfl (by decide) rfl ?_
                      refine o_goto X_41 K d1_216 186 (by decide) (by decide) ?_
                      refine o_iload X_41 K d1_186 188 rfl rfl ?_
                      refine o_iload X_41 K d1_188 190 rfl rfl ?_
                      refine o_icmp_ge_f X_41 K d1_190 193 rfl (by decide) ?_
                      refine o_aloadN X_41 K d1_193 194 rfl rfl rfl ?_
                      refine o_iloadN X_41 K d1_194 195 rfl rfl ?_
                      refine o_iload X_41 K d1_195 197 rfl rfl ?_
                      refine o_iadd X_41 K d1_197 198 rfl ?_
                      have hk3 : (i + (3 : Int32)).toInt = i.toInt + 3 := by have q1 := c_iadd i 3; have q2 := rng32 (i + 3); omega
                      refine o_baload X_41 K (i := (iN + 3)) (v := (.int (g (iN + 3)))) d1_198 199 rfl e_41 A_a (by omega) (by omega) (rfl) ?_
                      refine o_sipush X_41 K (128 : Int32) d1_199 202 rfl rfl ?_
                      refine o_sipush X_41 K (191 : Int32) d1_202 205 rfl rfl ?_
                      refine o_invokestatic X_41 K d1_205 208 rfl (w_10 hw) (w_11 hw) (w_4 hw) (w_12 hw) (by decide) [(.int (g (iN + 3))), (.int (128 : Int32)), (.int (191 : Int32))] [] rfl  (c_within l Z a0 hw n0 (g (iN + 3)) (128 : Int32) (191 : Int32) h0 Z0) e_41 rfl (lenOf pd__BII_Z rfl) (by decide) 0 (Nat.le_of_eq rfl) (by decide) (by decide) (by decide) N_41 ?_
                      rintro _ T_42 h_42 locs_42 X_42 q_42 ⟨rv_42, rfl, hb_42, r_42⟩ N_42
                      have e_42 := q_42.trans r_42
                      show OGo p e below s n0 _ _ _ (T_42.setTop (mkF m 208 #[.val (.ref a), .val (.int i), .val (.int en), .val (.int ld), .val (.int (4 : Int32)), .val (.int (144 : Int32)), .val (.int (191 : Int32)), .val (.int (3 : Int32))] [(.int rv_42)]))
                      rcases hb_42 with ⟨rfl, hr_rv_42⟩ | ⟨rfl, hr_rv_42⟩
                      · skip
                        refine o_if_ne_t X_42 K d1_208 213 (by decide) (by decide) (by decide) ?_
                        refine o_iinc X_42 K d1_213 216 rfl #[.val (.ref a), .val (.int i), .val (.int en), .val (.int ld), .val (.int (4 : Int32)), .val (.int (144 : Int32)), .val (.int (191 : Int32)), .val (.int (4 : Int32))] rfl (by decide) rfl ?_
                        refine o_goto X_42 K d1_216 186 (by decide) (by decide) ?_
                        refine o_iload X_42 K d1_186 188 rfl rfl ?_
                        refine o_iload X_42 K d1_188 190 rfl rfl ?_
                        refine o_icmp_ge_t X_42 K d1_190 219 (by decide) (by decide) (by decide) ?_
                        refine o_iload X_42 K d1_219 221 rfl rfl ?_
                        refine o_ireturn X_42 K d1_221 (by decide) (by decide) N_42 ?_
                        refine ⟨_, rfl, ?_, e_42⟩
                        clear X0 K e0 N0
                        subst h_ld
                        simp only [own_len]
                        repeat' split
                        all_goals omega
                      · skip
                        refine o_if_ne_f X_42 K d1_208 211 rfl (by decide) ?_
                        refine o_iconst X_42 K (0 : Int32) d1_211 212 rfl rfl ?_
                        refine o_ireturn X_42 K d1_212 (by decide) (by decide) N_42 ?_
                        refine ⟨_, rfl, ?_, e_42⟩
                        clear X0 K e0 N0
                        subst h_ld
                        simp only [own_len]
                        repeat' split
                        all_goals omega
                    · skip
                      refine o_if_ne_f X_41 K d1_208 211 rfl (by decide) ?_
                      refine o_iconst X_41 K (0 : Int32) d1_211 212 rfl rfl ?_
                      refine o_ireturn X_41 K d1_212 (by decide) (by decide) N_41 ?_
                      refine ⟨_, rfl, ?_, e_41⟩
                      clear X0 K e0 N0
                      subst h_ld
                      simp only [own_len]
                      repeat' split
                      all_goals omega
                  · skip
                    refine o_if_ne_f X_40 K d1_178 181 rfl (by decide) ?_
                    refine o_iconst X_40 K (0 : Int32) d1_181 182 rfl rfl ?_
                    refine o_ireturn X_40 K d1_182 (by decide) (by decide) N_40 ?_
                    refine ⟨_, rfl, ?_, e_40⟩
                    clear X0 K e0 N0
                    subst h_ld
                    simp only [own_len]
                    repeat' split
                    all_goals omega
            · refine o_iconst X0 K (3 : Int32) d1_88 89 rfl rfl ?_
              refine o_istore X0 K d1_89 91 rfl #[.val (.ref a), .val (.int i), .val (.int en), .val (.int ld), .val (.int (3 : Int32)), .val (.int (128 : Int32)), .val (.int (191 : Int32)), .unset] rfl rfl ?_
              refine o_goto X0 K d1_91 153 (by decide) (by decide) ?_
              refine o_iload X0 K d1_153 155 rfl rfl ?_
              refine o_if_eq_f X0 K d1_155 158 rfl (by decide) ?_
              refine o_iloadN X0 K d1_158 159 rfl rfl ?_
              refine o_iload X0 K d1_159 161 rfl rfl ?_
              refine o_iadd X0 K d1_161 162 rfl ?_
              refine o_iloadN X0 K d1_162 163 rfl rfl ?_
              have ha3 : (i + (3 : Int32)).toInt = i.toInt + 3 := by have q1 := c_iadd i (3 : Int32); have q2 := rng32 (i + (3 : Int32)); omega
              refine o_icmp_gt X0 K d1_163 181 (by decide) (by decide) 166 rfl (fun hc163 => ?_) (fun hc163 => ?_)
              · refine o_iconst X0 K (0 : Int32) d1_181 182 rfl rfl ?_
                refine o_ireturn X0 K d1_182 (by decide) (by decide) N0 ?_
                refine ⟨_, rfl, ?_, e0⟩
                clear X0 K e0 N0
                subst h_ld
                simp only [own_len]
                repeat' split
                all_goals omega
              · refine o_aloadN X0 K d1_166 167 rfl rfl rfl ?_
                refine o_iloadN X0 K d1_167 168 rfl rfl ?_
                refine o_iconst X0 K (1 : Int32) d1_168 169 rfl rfl ?_
                refine o_iadd X0 K d1_169 170 rfl ?_
                have hi1 : (i + (1 : Int32)).toInt = i.toInt + 1 := by have q1 := c_iadd i 1; have q2 := rng32 (i + 1); omega
                refine o_baload X0 K (i := (iN + 1)) (v := (.int (g (iN + 1)))) d1_170 171 rfl e0 A_a (by omega) (by omega) (rfl) ?_
                refine o_iload X0 K d1_171 173 rfl rfl ?_
                refine o_iload X0 K d1_173 175 rfl rfl ?_
                refine o_invokestatic X0 K d1_175 178 rfl (w_10 hw) (w_11 hw) (w_4 hw) (w_12 hw) (by decide) [(.int (g (iN + 1))), (.int (128 : Int32)), (.int (191 : Int32))] [] rfl  (c_within l Z a0 hw n0 (g (iN + 1)) (128 : Int32) (191 : Int32) h0 Z0) e0 rfl (lenOf pd__BII_Z rfl) (by decide) 0 (Nat.le_of_eq rfl) (by decide) (by decide) (by decide) N0 ?_
                rintro _ T_43 h_43 locs_43 X_43 q_43 ⟨rv_43, rfl, hb_43, r_43⟩ N_43
                have e_43 := q_43.trans r_43
                show OGo p e below s n0 _ _ _ (T_43.setTop (mkF m 178 #[.val (.ref a), .val (.int i), .val (.int en), .val (.int ld), .val (.int (3 : Int32)), .val (.int (128 : Int32)), .val (.int (191 : Int32)), .unset] [(.int rv_43)]))
                rcases hb_43 with ⟨rfl, hr_rv_43⟩ | ⟨rfl, hr_rv_43⟩
                · skip
                  refine o_if_ne_t X_43 K d1_178 183 (by decide) (by decide) (by decide) ?_
                  refine o_iconst X_43 K (2 : Int32) d1_183 184 rfl rfl ?_
                  refine o_istore X_43 K d1_184 186 rfl #[.val (.ref a), .val (.int i), .val (.int en), .val (.int ld), .val (.int (3 : Int32)), .val (.int (128 : Int32)), .val (.int (191 : Int32)), .val (.int (2 : Int32))] rfl rfl ?_
                  refine o_iload X_43 K d1_186 188 rfl rfl ?_
                  refine o_iload X_43 K d1_188 190 rfl rfl ?_
                  refine o_icmp_ge_f X_43 K d1_190 193 rfl (by decide) ?_
                  refine o_aloadN X_43 K d1_193 194 rfl rfl rfl ?_
                  refine o_iloadN X_43 K d1_194 195 rfl rfl ?_
                  refine o_iload X_43 K d1_195 197 rfl rfl ?_
                  refine o_iadd X_43 K d1_197 198 rfl ?_
                  have hk2 : (i + (2 : Int32)).toInt = i.toInt + 2 := by have q1 := c_iadd i 2; have q2 := rng32 (i + 2); omega
                  refine o_baload X_43 K (i := (iN + 2)) (v := (.int (g (iN + 2)))) d1_198 199 rfl e_43 A_a (by omega) (by omega) (rfl) ?_
                  refine o_sipush X_43 K (128 : Int32) d1_199 202 rfl rfl ?_
                  refine o_sipush X_43 K (191 : Int32) d1_202 205 rfl rfl ?_
                  refine o_invokestatic X_43 K d1_205 208 rfl (w_10 hw) (w_11 hw) (w_4 hw) (w_12 hw) (by decide) [(.int (g (iN + 2))), (.int (128 : Int32)), (.int (191 : Int32))] [] rfl  (c_within l Z a0 hw n0 (g (iN + 2)) (128 : Int32) (191 : Int32) h0 Z0) e_43 rfl (lenOf pd__BII_Z rfl) (by decide) 0 (Nat.le_of_eq rfl) (by decide) (by decide) (by decide) N_43 ?_
                  rintro _ T_44 h_44 locs_44 X_44 q_44 ⟨rv_44, rfl, hb_44, r_44⟩ N_44
                  have e_44 := q_44.trans r_44
                  show OGo p e below s n0 _ _ _ (T_44.setTop (mkF m 208 #[.val (.ref a), .val (.int i), .val (.int en), .val (.int ld), .val (.int (3 : Int32)), .val (.int (128 : Int32)), .val (.int (191 : Int32)), .val (.int (2 : Int32))] [(.int rv_44)]))
                  rcases hb_44 with ⟨rfl, hr_rv_44⟩ | ⟨rfl, hr_rv_44⟩
                  · skip
                    refine o_if_ne_t X_44 K d1_208 213 (by decide) (by decide) (by decide) ?_
                    refine o_iinc X_44 K d1_213 216 rfl #[.val (.ref a), .val (.int i), .val (.int en), .val (.int ld), .val (.int (3 : Int32)), .val (.int (128 : Int32)), .val (.int (191 : Int32)), .val (.int (3 : Int32))] rfl (by decide) rfl ?_
                    refine o_goto X_44 K d1_216 186 (by decide) (by decide) ?_
                    refine o_iload X_44 K d1_186 188 rfl rfl ?_
                    refine o_iload X_44 K d1_188 190 rfl rfl ?_
                    refine o_icmp_ge_t X_44 K d1_190 219 (by decide) (by decide) (by decide) ?_
                    refine o_iload X_44 K d1_219 221 rfl rfl ?_
                    refine o_ireturn X_44 K d1_221 (by decide) (by decide) N_44 ?_
                    refine ⟨_, rfl, ?_, e_44⟩
                    clear X0 K e0 N0
                    subst h_ld
                    simp only [own_len]
                    repeat' split
                    all_goals omega
                  · skip
                    refine o_if_ne_f X_44 K d1_208 211 rfl (by decide) ?_
                    refine o_iconst X_44 K (0 : Int32) d1_211 212 rfl rfl ?_
                    refine o_ireturn X_44 K d1_212 (by decide) (by decide) N_44 ?_
                    refine ⟨_, rfl, ?_, e_44⟩
                    clear X0 K e0 N0
                    subst h_ld
                    simp only [own_len]
                    repeat' split
                    all_goals omega
                · skip
                  refine o_if_ne_f X_43 K d1_178 181 rfl (by decide) ?_
                  refine o_iconst X_43 K (0 : Int32) d1_181 182 rfl rfl ?_
                  refine o_ireturn X_43 K d1_182 (by decide) (by decide) N_43 ?_
                  refine ⟨_, rfl, ?_, e_43⟩
                  clear X0 K e0 N0
                  subst h_ld
                  simp only [own_len]
                  repeat' split
                  all_goals omega
        · rw [← Int32.toInt_inj] at hc60
          refine o_iconst X0 K (3 : Int32) d1_63 64 rfl rfl ?_
          refine o_istore X0 K d1_64 66 rfl #[.val (.ref a), .val (.int i), .val (.int en), .val (.int ld), .val (.int (3 : Int32)), .val (.int (128 : Int32)), .val (.int (191 : Int32)), .unset] rfl rfl ?_
          refine o_sipush X0 K (159 : Int32) d1_66 69 rfl rfl ?_
          refine o_istore X0 K d1_69 71 rfl #[.val (.ref a), .val (.int i), .val (.int en), .val (.int ld), .val (.int (3 : Int32)), .val (.int (128 : Int32)), .val (.int (159 : Int32)), .unset] rfl rfl ?_
          refine o_goto X0 K d1_71 153 (by decide) (by decide) ?_
          refine o_iload X0 K d1_153 155 rfl rfl ?_
          refine o_if_eq_f X0 K d1_155 158 rfl (by decide) ?_
          refine o_iloadN X0 K d1_158 159 rfl rfl ?_
          refine o_iload X0 K d1_159 161 rfl rfl ?_
          refine o_iadd X0 K d1_161 162 rfl ?_
          refine o_iloadN X0 K d1_162 163 rfl rfl ?_
          have ha3 : (i + (3 : Int32)).toInt = i.toInt + 3 := by have q1 := c_iadd i (3 : Int32); have q2 := rng32 (i + (3 : Int32)); omega
          refine o_icmp_gt X0 K d1_163 181 (by decide) (by decide) 166 rfl (fun hc163 => ?_) (fun hc163 => ?_)
          · refine o_iconst X0 K (0 : Int32) d1_181 182 rfl rfl ?_
            refine o_ireturn X0 K d1_182 (by decide) (by decide) N0 ?_
            refine ⟨_, rfl, ?_, e0⟩
            clear X0 K e0 N0
            subst h_ld
            simp only [own_len]
            repeat' split
            all_goals omega
          · refine o_aloadN X0 K d1_166 167 rfl rfl rfl ?_
            refine o_iloadN X0 K d1_167 168 rfl rfl ?_
            refine o_iconst X0 K (1 : Int32) d1_168 169 rfl rfl ?_
            refine o_iadd X0 K d1_169 170 rfl ?_
            have hi1 : (i + (1 : Int32)).toInt = i.toInt + 1 := by have q1 := c_iadd i 1; have q2 := rng32 (i + 1); omega
            refine o_baload X0 K (i := (iN + 1)) (v := (.int (g (iN + 1)))) d1_170 171 rfl e0 A_a (by omega) (by omega) (rfl) ?_
            refine o_iload X0 K d1_171 173 rfl rfl ?_
            refine o_iload X0 K d1_173 175 rfl rfl ?_
            refine o_invokestatic X0 K d1_175 178 rfl (w_10 hw) (w_11 hw) (w_4 hw) (w_12 hw) (by decide) [(.int (g (iN + 1))), (.int (128 : Int32)), (.int (159 : Int32))] [] rfl  (c_within l Z a0 hw n0 (g (iN + 1)) (128 : Int32) (159 : Int32) h0 Z0) e0 rfl (lenOf pd__BII_Z rfl) (by decide) 0 (Nat.le_of_eq rfl) (by decide) (by decide) (by decide) N0 ?_
            rintro _ T_45 h_45 locs_45 X_45 q_45 ⟨rv_45, rfl, hb_45, r_45⟩ N_45
            have e_45 := q_45.trans r_45
            show OGo p e below s n0 _ _ _ (T_45.setTop (mkF m 178 #[.val (.ref a), .val (.int i), .val (.int en), .val (.int ld), .val (.int (3 : Int32)), .val (.int (128 : Int32)), .val (.int (159 : Int32)), .unset] [(.int rv_45)]))
            rcases hb_45 with ⟨rfl, hr_rv_45⟩ | ⟨rfl, hr_rv_45⟩
            · skip
              refine o_if_ne_t X_45 K d1_178 183 (by decide) (by decide) (by decide) ?_
              refine o_iconst X_45 K (2 : Int32) d1_183 184 rfl rfl ?_
              refine o_istore X_45 K d1_184 186 rfl #[.val (.ref a), .val (.int i), .val (.int en), .val (.int ld), .val (.int (3 : Int32)), .val (.int (128 : Int32)), .val (.int (159 : Int32)), .val (.int (2 : Int32))] rfl rfl ?_
              refine o_iload X_45 K d1_186 188 rfl rfl ?_
              refine o_iload X_45 K d1_188 190 rfl rfl ?_
              refine o_icmp_ge_f X_45 K d1_190 193 rfl (by decide) ?_
              refine o_aloadN X_45 K d1_193 194 rfl rfl rfl ?_
              refine o_iloadN X_45 K d1_194 195 rfl rfl ?_
              refine o_iload X_45 K d1_195 197 rfl rfl ?_
              refine o_iadd X_45 K d1_197 198 rfl ?_
              have hk2 : (i + (2 : Int32)).toInt = i.toInt + 2 := by have q1 := c_iadd i 2; have q2 := rng32 (i + 2); omega
              refine o_baload X_45 K (i := (iN + 2)) (v := (.int (g (iN + 2)))) d1_198 199 rfl e_45 A_a (by omega) (by omega) (rfl) ?_
              refine o_sipush X_45 K (128 : Int32) d1_199 202 rfl rfl ?_
              refine o_sipush X_45 K (191 : Int32) d1_202 205 rfl rfl ?_
              refine o_invokestatic X_45 K d1_205 208 rfl (w_10 hw) (w_11 hw) (w_4 hw) (w_12 hw) (by decide) [(.int (g (iN + 2))), (.int (128 : Int32)), (.int (191 : Int32))] [] rfl  (c_within l Z a0 hw n0 (g (iN + 2)) (128 : Int32) (191 : Int32) h0 Z0) e_45 rfl (lenOf pd__BII_Z rfl) (by decide) 0 (Nat.le_of_eq rfl) (by decide) (by decide) (by decide) N_45 ?_
              rintro _ T_46 h_46 locs_46 X_46 q_46 ⟨rv_46, rfl, hb_46, r_46⟩ N_46
              have e_46 := q_46.trans r_46
              show OGo p e below s n0 _ _ _ (T_46.setTop (mkF m 208 #[.val (.ref a), .val (.int i), .val (.int en), .val (.int ld), .val (.int (3 : Int32)), .val (.int (128 : Int32)), .val (.int (159 : Int32)), .val (.int (2 : Int32))] [(.int rv_46)]))
              rcases hb_46 with ⟨rfl, hr_rv_46⟩ | ⟨rfl, hr_rv_46⟩
              · skip
                refine o_if_ne_t X_46 K d1_208 213 (by decide) (by decide) (by decide) ?_
                refine o_iinc X_46 K d1_213 216 rfl #[.val (.ref a), .val (.int i), .val (.int en), .val (.int ld), .val (.int (3 : Int32)), .val (.int (128 : Int32)), .val (.int (159 : Int32)), .val (.int (3 : Int32))] rfl (by decide) rfl ?_
                refine o_goto X_46 K d1_216 186 (by decide) (by decide) ?_
                refine o_iload X_46 K d1_186 188 rfl rfl ?_
                refine o_iload X_46 K d1_188 190 rfl rfl ?_
                refine o_icmp_ge_t X_46 K d1_190 219 (by decide) (by decide) (by decide) ?_
                refine o_iload X_46 K d1_219 221 rfl rfl ?_
                refine o_ireturn X_46 K d1_221 (by decide) (by decide) N_46 ?_
                refine ⟨_, rfl, ?_, e_46⟩
                clear X0 K e0 N0
                subst h_ld
                simp only [own_len]
                repeat' split
                all_goals omega
              · skip
                refine o_if_ne_f X_46 K d1_208 211 rfl (by decide) ?_
                refine o_iconst X_46 K (0 : Int32) d1_211 212 rfl rfl ?_
                refine o_ireturn X_46 K d1_212 (by decide) (by decide) N_46 ?_
                refine ⟨_, rfl, ?_, e_46⟩
                clear X0 K e0 N0
                subst h_ld
                simp only [own_len]
                repeat' split
                all_goals omega
            · skip
              refine o_if_ne_f X_45 K d1_178 181 rfl (by decide) ?_
              refine o_iconst X_45 K (0 : Int32) d1_181 182 rfl rfl ?_
              refine o_ireturn X_45 K d1_182 (by decide) (by decide) N_45 ?_
              refine ⟨_, rfl, ?_, e_45⟩
              clear X0 K e0 N0
              subst h_ld
              simp only [own_len]
              repeat' split
              all_goals omega
      · rw [← Int32.toInt_inj] at hc42
        refine o_iconst X0 K (3 : Int32) d1_45 46 rfl rfl ?_
        refine o_istore X0 K d1_46 48 rfl #[.val (.ref a), .val (.int i), .val (.int en), .val (.int ld), .val (.int (3 : Int32)), .val (.int (128 : Int32)), .val (.int (191 : Int32)), .unset] rfl rfl ?_
        refine o_sipush X0 K (160 : Int32) d1_48 51 rfl rfl ?_
        refine o_istore X0 K d1_51 53 rfl #[.val (.ref a), .val (.int i), .val (.int en), .val (.int ld), .val (.int (3 : Int32)), .val (.int (160 : Int32)), .val (.int (191 : Int32)), .unset] rfl rfl ?_
        refine o_goto X0 K d1_53 153 (by decide) (by decide) ?_
        refine o_iload X0 K d1_153 155 rfl rfl ?_
        refine o_if_eq_f X0 K d1_155 158 rfl (by decide) ?_
        refine o_iloadN X0 K d1_158 159 rfl rfl ?_
        refine o_iload X0 K d1_159 161 rfl rfl ?_
        refine o_iadd X0 K d1_161 162 rfl ?_
        refine o_iloadN X0 K d1_162 163 rfl rfl ?_
        have ha3 : (i + (3 : Int32)).toInt = i.toInt + 3 := by have q1 := c_iadd i (3 : Int32); have q2 := rng32 (i + (3 : Int32)); omega
        refine o_icmp_gt X0 K d1_163 181 (by decide) (by decide) 166 rfl (fun hc163 => ?_) (fun hc163 => ?_)
        · refine o_iconst X0 K (0 : Int32) d1_181 182 rfl rfl ?_
          refine o_ireturn X0 K d1_182 (by decide) (by decide) N0 ?_
          refine ⟨_, rfl, ?_, e0⟩
          clear X0 K e0 N0
          subst h_ld
          simp only [own_len]
          repeat' split
          all_goals omega
        · refine o_aloadN X0 K d1_166 167 rfl rfl rfl ?_
          refine o_iloadN X0 K d1_167 168 rfl rfl ?_
          refine o_iconst X0 K (1 : Int32) d1_168 169 rfl rfl ?_
          refine o_iadd X0 K d1_169 170 rfl ?_
          have hi1 : (i + (1 : Int32)).toInt = i.toInt + 1 := by have q1 := c_iadd i 1; have q2 := rng32 (i + 1); omega
          refine o_baload X0 K (i := (iN + 1)) (v := (.int (g (iN + 1)))) d1_170 171 rfl e0 A_a (by omega) (by omega) (rfl) ?_
          refine o_iload X0 K d1_171 173 rfl rfl ?_
          refine o_iload X0 K d1_173 175 rfl rfl ?_
          refine o_invokestatic X0 K d1_175 178 rfl (w_10 hw) (w_11 hw) (w_4 hw) (w_12 hw) (by decide) [(.int (g (iN + 1))), (.int (160 : Int32)), (.int (191 : Int32))] [] rfl  (c_within l Z a0 hw n0 (g (iN + 1)) (160 : Int32) (191 : Int32) h0 Z0) e0 rfl (lenOf pd__BII_Z rfl) (by decide) 0 (Nat.le_of_eq rfl) (by decide) (by decide) (by decide) N0 ?_
          rintro _ T_47 h_47 locs_47 X_47 q_47 ⟨rv_47, rfl, hb_47, r_47⟩ N_47
          have e_47 := q_47.trans r_47
          show OGo p e below s n0 _ _ _ (T_47.setTop (mkF m 178 #[.val (.ref a), .val (.int i), .val (.int en), .val (.int ld), .val (.int (3 : Int32)), .val (.int (160 : Int32)), .val (.int (191 : Int32)), .unset] [(.int rv_47)]))
          rcases hb_47 with ⟨rfl, hr_rv_47⟩ | ⟨rfl, hr_rv_47⟩
          · skip
            refine o_if_ne_t X_47 K d1_178 183 (by decide) (by decide) (by decide) ?_
            refine o_iconst X_47 K (2 : Int32) d1_183 184 rfl rfl ?_
            refine o_istore X_47 K d1_184 186 rfl #[.val (.ref a), .val (.int i), .val (.int en), .val (.int ld), .val (.int (3 : Int32)), .val (.int (160 : Int32)), .val (.int (191 : Int32)), .val (.int (2 : Int32))] rfl rfl ?_
            refine o_iload X_47 K d1_186 188 rfl rfl ?_
            refine o_iload X_47 K d1_188 190 rfl rfl ?_
            refine o_icmp_ge_f X_47 K d1_190 193 rfl (by decide) ?_
            refine o_aloadN X_47 K d1_193 194 rfl rfl rfl ?_
            refine o_iloadN X_47 K d1_194 195 rfl rfl ?_
            refine o_iload X_47 K d1_195 197 rfl rfl ?_
            refine o_iadd X_47 K d1_197 198 rfl ?_
            have hk2 : (i + (2 : Int32)).toInt = i.toInt + 2 := by have q1 := c_iadd i 2; have q2 := rng32 (i + 2); omega
            refine o_baload X_47 K (i := (iN + 2)) (v := (.int (g (iN + 2)))) d1_198 199 rfl e_47 A_a (by omega) (by omega) (rfl) ?_
            refine o_sipush X_47 K (128 : Int32) d1_199 202 rfl rfl ?_
            refine o_sipush X_47 K (191 : Int32) d1_202 205 rfl rfl ?_
            refine o_invokestatic X_47 K d1_205 208 rfl (w_10 hw) (w_11 hw) (w_4 hw) (w_12 hw) (by decide) [(.int (g (iN + 2))), (.int (128 : Int32)), (.int (191 : Int32))] [] rfl  (c_within l Z a0 hw n0 (g (iN + 2)) (128 : Int32) (191 : Int32) h0 Z0) e_47 rfl (lenOf pd__BII_Z rfl) (by decide) 0 (Nat.le_of_eq rfl) (by decide) (by decide) (by decide) N_47 ?_
            rintro _ T_48 h_48 locs_48 X_48 q_48 ⟨rv_48, rfl, hb_48, r_48⟩ N_48
            have e_48 := q_48.trans r_48
            show OGo p e below s n0 _ _ _ (T_48.setTop (mkF m 208 #[.val (.ref a), .val (.int i), .val (.int en), .val (.int ld), .val (.int (3 : Int32)), .val (.int (160 : Int32)), .val (.int (191 : Int32)), .val (.int (2 : Int32))] [(.int rv_48)]))
            rcases hb_48 with ⟨rfl, hr_rv_48⟩ | ⟨rfl, hr_rv_48⟩
            · skip
              refine o_if_ne_t X_48 K d1_208 213 (by decide) (by decide) (by decide) ?_
              refine o_iinc X_48 K d1_213 216 rfl #[.val (.ref a), .val (.int i), .val (.int en), .val (.int ld), .val (.int (3 : Int32)), .val (.int (160 : Int32)), .val (.int (191 : Int32)), .val (.int (3 : Int32))] rfl (by decide) rfl ?_
              refine o_goto X_48 K d1_216 186 (by decide) (by decide) ?_
              refine o_iload X_48 K d1_186 188 rfl rfl ?_
              refine o_iload X_48 K d1_188 190 rfl rfl ?_
              refine o_icmp_ge_t X_48 K d1_190 219 (by decide) (by decide) (by decide) ?_
              refine o_iload X_48 K d1_219 221 rfl rfl ?_
              refine o_ireturn X_48 K d1_221 (by decide) (by decide) N_48 ?_
              refine ⟨_, rfl, ?_, e_48⟩
              clear X0 K e0 N0
              subst h_ld
              simp only [own_len]
              repeat' split
              all_goals omega
            · skip
              refine o_if_ne_f X_48 K d1_208 211 rfl (by decide) ?_
              refine o_iconst X_48 K (0 : Int32) d1_211 212 rfl rfl ?_
              refine o_ireturn X_48 K d1_212 (by decide) (by decide) N_48 ?_
              refine ⟨_, rfl, ?_, e_48⟩
              clear X0 K e0 N0
              subst h_ld
              simp only [own_len]
              repeat' split
              all_goals omega
          · skip
            refine o_if_ne_f X_47 K d1_178 181 rfl (by decide) ?_
            refine o_iconst X_47 K (0 : Int32) d1_181 182 rfl rfl ?_
            refine o_ireturn X_47 K d1_182 (by decide) (by decide) N_47 ?_
            refine ⟨_, rfl, ?_, e_47⟩
            clear X0 K e0 N0
            subst h_ld
            simp only [own_len]
            repeat' split
            all_goals omega
    · refine o_iconst X0 K (2 : Int32) d1_32 33 rfl rfl ?_
      refine o_istore X0 K d1_33 35 rfl #[.val (.ref a), .val (.int i), .val (.int en), .val (.int ld), .val (.int (2 : Int32)), .val (.int (128 : Int32)), .val (.int (191 : Int32)), .unset] rfl rfl ?_
      refine o_goto X0 K d1_35 153 (by decide) (by decide) ?_
      refine o_iload X0 K d1_153 155 rfl rfl ?_
      refine o_if_eq_f X0 K d1_155 158 rfl (by decide) ?_
      refine o_iloadN X0 K d1_158 159 rfl rfl ?_
      refine o_iload X0 K d1_159 161 rfl rfl ?_
      refine o_iadd X0 K d1_161 162 rfl ?_
      refine o_iloadN X0 K d1_162 163 rfl rfl ?_
      have ha2 : (i + (2 : Int32)).toInt = i.toInt + 2 := by have q1 := c_iadd i (2 : Int32); have q2 := rng32 (i + (2 : Int32)); omega
      refine o_icmp_gt X0 K d1_163 181 (by decide) (by decide) 166 rfl (fun hc163 => ?_) (fun hc163 => ?_)
      · refine o_iconst X0 K (0 : Int32) d1_181 182 rfl rfl ?_
        refine o_ireturn X0 K d1_182 (by decide) (by decide) N0 ?_
        refine ⟨_, rfl, ?_, e0⟩
        clear X0 K e0 N0
        subst h_ld
        simp only [own_len]
        repeat' split
        all_goals omega
      · refine o_aloadN X0 K d1_166 167 rfl rfl rfl ?_
        refine o_iloadN X0 K d1_167 168 rfl rfl ?_
        refine o_iconst X0 K (1 : Int32) d1_168 169 rfl rfl ?_
        refine o_iadd X0 K d1_169 170 rfl ?_
        have hi1 : (i + (1 : Int32)).toInt = i.toInt + 1 := by have q1 := c_iadd i 1; have q2 := rng32 (i + 1); omega
        refine o_baload X0 K (i := (iN + 1)) (v := (.int (g (iN + 1)))) d1_170 171 rfl e0 A_a (by omega) (by omega) (rfl) ?_
        refine o_iload X0 K d1_171 173 rfl rfl ?_
        refine o_iload X0 K d1_173 175 rfl rfl ?_
        refine o_invokestatic X0 K d1_175 178 rfl (w_10 hw) (w_11 hw) (w_4 hw) (w_12 hw) (by decide) [(.int (g (iN + 1))), (.int (128 : Int32)), (.int (191 : Int32))] [] rfl  (c_within l Z a0 hw n0 (g (iN + 1)) (128 : Int32) (191 : Int32) h0 Z0) e0 rfl (lenOf pd__BII_Z rfl) (by decide) 0 (Nat.le_of_eq rfl) (by decide) (by decide) (by decide) N0 ?_
        rintro _ T_49 h_49 locs_49 X_49 q_49 ⟨rv_49, rfl, hb_49, r_49⟩ N_49
        have e_49 := q_49.trans r_49
        show OGo p e below s n0 _ _ _ (T_49.setTop (mkF m 178 #[.val (.ref a), .val (.int i), .val (.int en), .val (.int ld), .val (.int (2 : Int32)), .val (.int (128 : Int32)), .val (.int (191 : Int32)), .unset] [(.int rv_49)]))
        rcases hb_49 with ⟨rfl, hr_rv_49⟩ | ⟨rfl, hr_rv_49⟩
        · skip
          refine o_if_ne_t X_49 K d1_178 183 (by decide) (by decide) (by decide) ?_
          refine o_iconst X_49 K (2 : Int32) d1_183 184 rfl rfl ?_
          refine o_istore X_49 K d1_184 186 rfl #[.val (.ref a), .val (.int i), .val (.int en), .val (.int ld), .val (.int (2 : Int32)), .val (.int (128 : Int32)), .val (.int (191 : Int32)), .val (.int (2 : Int32))] rfl rfl ?_
          refine o_iload X_49 K d1_186 188 rfl rfl ?_
          refine o_iload X_49 K d1_188 190 rfl rfl ?_
          refine o_icmp_ge_t X_49 K d1_190 219 (by decide) (by decide) (by decide) ?_
          refine o_iload X_49 K d1_219 221 rfl rfl ?_
          refine o_ireturn X_49 K d1_221 (by decide) (by decide) N_49 ?_
          refine ⟨_, rfl, ?_, e_49⟩
          clear X0 K e0 N0
          subst h_ld
          simp only [own_len]
          repeat' split
          all_goals omega
        · skip
          refine o_if_ne_f X_49 K d1_178 181 rfl (by decide) ?_
          refine o_iconst X_49 K (0 : Int32) d1_181 182 rfl rfl ?_
          refine o_ireturn X_49 K d1_182 (by decide) (by decide) N_49 ?_
          refine ⟨_, rfl, ?_, e_49⟩
          clear X0 K e0 N0
          subst h_ld
          simp only [own_len]
          repeat' split
          all_goals omega
theorem d2_0 : decode method_3_code 0 = .ok (.iload_n 0, 1) := by decide +kernel
theorem d2_1 : decode method_3_code 1 = .ok (.sipush 192, 3) := by decide +kernel
theorem d2_4 : decode method_3_code 4 = .ok (.if_icmp .ge 5, 3) := by decide +kernel
theorem d2_9 : decode method_3_code 9 = .ok (.iload_n 0, 1) := by decide +kernel
theorem d2_10 : decode method_3_code 10 = .ok (.sipush 224, 3) := by decide +kernel
theorem d2_13 : decode method_3_code 13 = .ok (.if_icmp .ge 9, 3) := by decide +kernel
theorem d2_22 : decode method_3_code 22 = .ok (.iload_n 0, 1) := by decide +kernel
theorem d2_23 : decode method_3_code 23 = .ok (.sipush 240, 3) := by decide +kernel
theorem d2_26 : decode method_3_code 26 = .ok (.if_icmp .ge 9, 3) := by decide +kernel
theorem d2_35 : decode method_3_code 35 = .ok (.iload_n 0, 1) := by decide +kernel
theorem d2_36 : decode method_3_code 36 = .ok (.sipush 248, 3) := by decide +kernel
theorem d2_39 : decode method_3_code 39 = .ok (.if_icmp .ge 9, 3) := by decide +kernel
theorem d2_48 : decode method_3_code 48 = .ok (.iconst 0, 1) := by decide +kernel
theorem d2_49 : decode method_3_code 49 = .ok (.ireturn, 1) := by decide +kernel
theorem d2_42 : decode method_3_code 42 = .ok (.iconst 4, 1) := by decide +kernel
theorem d2_43 : decode method_3_code 43 = .ok (.istore 5, 2) := by decide +kernel
theorem d2_45 : decode method_3_code 45 = .ok (.goto 5, 3) := by decide +kernel
theorem d2_50 : decode method_3_code 50 = .ok (.iload 5, 2) := by decide +kernel
theorem d2_52 : decode method_3_code 52 = .ok (.iload 4, 2) := by decide +kernel
theorem d2_54 : decode method_3_code 54 = .ok (.if_icmp .le 5, 3) := by decide +kernel
theorem d2_59 : decode method_3_code 59 = .ok (.iload 5, 2) := by decide +kernel
theorem d2_61 : decode method_3_code 61 = .ok (.iconst 2, 1) := by decide +kernel
theorem d2_62 : decode method_3_code 62 = .ok (.if_icmp .ne 40, 3) := by decide +kernel
theorem d2_102 : decode method_3_code 102 = .ok (.iload 5, 2) := by decide +kernel
theorem d2_104 : decode method_3_code 104 = .ok (.iconst 3, 1) := by decide +kernel
theorem d2_105 : decode method_3_code 105 = .ok (.if_icmp .ne 69, 3) := by decide +kernel
theorem d2_174 : decode method_3_code 174 = .ok (.iload_n 1, 1) := by decide +kernel
theorem d2_175 : decode method_3_code 175 = .ok (.invokestatic 7, 3) := by decide +kernel
theorem pd__I_Z : parseMethodDescriptor "(I)Z" = some ⟨[.int], some .boolean⟩ := by decide +kernel
theorem d2_178 : decode method_3_code 178 = .ok (.ifCond .eq 17, 3) := by decide +kernel
theorem d2_181 : decode method_3_code 181 = .ok (.iload_n 2, 1) := by decide +kernel
theorem d2_182 : decode method_3_code 182 = .ok (.invokestatic 7, 3) := by decide +kernel
theorem d2_185 : decode method_3_code 185 = .ok (.ifCond .eq 10, 3) := by decide +kernel
theorem d2_188 : decode method_3_code 188 = .ok (.iload_n 3, 1) := by decide +kernel
theorem d2_189 : decode method_3_code 189 = .ok (.invokestatic 7, 3) := by decide +kernel
theorem d2_192 : decode method_3_code 192 = .ok (.ifCond .ne 5, 3) := by decide +kernel
theorem d2_197 : decode method_3_code 197 = .ok (.iload_n 0, 1) := by decide +kernel
theorem d2_198 : decode method_3_code 198 = .ok (.bipush 7, 2) := by decide +kernel
theorem d2_200 : decode method_3_code 200 = .ok (.iand, 1) := by decide +kernel
theorem d2_201 : decode method_3_code 201 = .ok (.bipush 18, 2) := by decide +kernel
theorem d2_203 : decode method_3_code 203 = .ok (.ishl, 1) := by decide +kernel
theorem d2_204 : decode method_3_code 204 = .ok (.iload_n 1, 1) := by decide +kernel
theorem d2_205 : decode method_3_code 205 = .ok (.bipush 63, 2) := by decide +kernel
theorem d2_207 : decode method_3_code 207 = .ok (.iand, 1) := by decide +kernel
theorem d2_208 : decode method_3_code 208 = .ok (.bipush 12, 2) := by decide +kernel
theorem d2_210 : decode method_3_code 210 = .ok (.ishl, 1) := by decide +kernel
theorem d2_211 : decode method_3_code 211 = .ok (.ior, 1) := by decide +kernel
theorem d2_212 : decode method_3_code 212 = .ok (.iload_n 2, 1) := by decide +kernel
theorem d2_213 : decode method_3_code 213 = .ok (.bipush 63, 2) := by decide +kernel
theorem d2_215 : decode method_3_code 215 = .ok (.iand, 1) := by decide +kernel
theorem d2_216 : decode method_3_code 216 = .ok (.bipush 6, 2) := by decide +kernel
theorem d2_218 : decode method_3_code 218 = .ok (.ishl, 1) := by decide +kernel
theorem d2_219 : decode method_3_code 219 = .ok (.ior, 1) := by decide +kernel
theorem d2_220 : decode method_3_code 220 = .ok (.iload_n 3, 1) := by decide +kernel
theorem d2_221 : decode method_3_code 221 = .ok (.bipush 63, 2) := by decide +kernel
theorem d2_223 : decode method_3_code 223 = .ok (.iand, 1) := by decide +kernel
theorem d2_224 : decode method_3_code 224 = .ok (.ior, 1) := by decide +kernel
theorem d2_225 : decode method_3_code 225 = .ok (.istore 6, 2) := by decide +kernel
theorem d2_227 : decode method_3_code 227 = .ok (.iload 6, 2) := by decide +kernel
theorem d2_229 : decode method_3_code 229 = .ok (.ldc 15, 2) := by decide +kernel
theorem d2_231 : decode method_3_code 231 = .ok (.if_icmp .lt 10, 3) := by decide +kernel
theorem d2_241 : decode method_3_code 241 = .ok (.iconst 0, 1) := by decide +kernel
theorem d2_242 : decode method_3_code 242 = .ok (.ireturn, 1) := by decide +kernel
theorem d2_234 : decode method_3_code 234 = .ok (.iload 6, 2) := by decide +kernel
theorem d2_236 : decode method_3_code 236 = .ok (.ldc 16, 2) := by decide +kernel
theorem d2_238 : decode method_3_code 238 = .ok (.if_icmp .le 5, 3) := by decide +kernel
theorem d2_243 : decode method_3_code 243 = .ok (.iconst 4, 1) := by decide +kernel
theorem d2_244 : decode method_3_code 244 = .ok (.ireturn, 1) := by decide +kernel
theorem d2_195 : decode method_3_code 195 = .ok (.iconst 0, 1) := by decide +kernel
theorem d2_196 : decode method_3_code 196 = .ok (.ireturn, 1) := by decide +kernel
theorem d2_57 : decode method_3_code 57 = .ok (.iconst 0, 1) := by decide +kernel
theorem d2_58 : decode method_3_code 58 = .ok (.ireturn, 1) := by decide +kernel
theorem d2_29 : decode method_3_code 29 = .ok (.iconst 3, 1) := by decide +kernel
theorem d2_30 : decode method_3_code 30 = .ok (.istore 5, 2) := by decide +kernel
theorem d2_32 : decode method_3_code 32 = .ok (.goto 18, 3) := by decide +kernel
theorem d2_108 : decode method_3_code 108 = .ok (.iload_n 1, 1) := by decide +kernel
theorem d2_109 : decode method_3_code 109 = .ok (.invokestatic 7, 3) := by decide +kernel
theorem d2_112 : decode method_3_code 112 = .ok (.ifCond .eq 10, 3) := by decide +kernel
theorem d2_115 : decode method_3_code 115 = .ok (.iload_n 2, 1) := by decide +kernel
theorem d2_116 : decode method_3_code 116 = .ok (.invokestatic 7, 3) := by decide +kernel
theorem d2_119 : decode method_3_code 119 = .ok (.ifCond .ne 5, 3) := by decide +kernel
theorem d2_124 : decode method_3_code 124 = .ok (.iload_n 0, 1) := by decide +kernel
theorem d2_125 : decode method_3_code 125 = .ok (.bipush 15, 2) := by decide +kernel
theorem d2_127 : decode method_3_code 127 = .ok (.iand, 1) := by decide +kernel
theorem d2_128 : decode method_3_code 128 = .ok (.bipush 12, 2) := by decide +kernel
theorem d2_130 : decode method_3_code 130 = .ok (.ishl, 1) := by decide +kernel
theorem d2_131 : decode method_3_code 131 = .ok (.iload_n 1, 1) := by decide +kernel
theorem d2_132 : decode method_3_code 132 = .ok (.bipush 63, 2) := by decide +kernel
theorem d2_134 : decode method_3_code 134 = .ok (.iand, 1) := by decide +kernel
theorem d2_135 : decode method_3_code 135 = .ok (.bipush 6, 2) := by decide +kernel
theorem d2_137 : decode method_3_code 137 = .ok (.ishl, 1) := by decide +kernel
theorem d2_138 : decode method_3_code 138 = .ok (.ior, 1) := by decide +kernel
theorem d2_139 : decode method_3_code 139 = .ok (.iload_n 2, 1) := by decide +kernel
theorem d2_140 : decode method_3_code 140 = .ok (.bipush 63, 2) := by decide +kernel
theorem d2_142 : decode method_3_code 142 = .ok (.iand, 1) := by decide +kernel
theorem d2_143 : decode method_3_code 143 = .ok (.ior, 1) := by decide +kernel
theorem d2_144 : decode method_3_code 144 = .ok (.istore 6, 2) := by decide +kernel
theorem d2_146 : decode method_3_code 146 = .ok (.iload 6, 2) := by decide +kernel
theorem d2_148 : decode method_3_code 148 = .ok (.sipush 2048, 3) := by decide +kernel
theorem d2_151 : decode method_3_code 151 = .ok (.if_icmp .ge 5, 3) := by decide +kernel
theorem d2_156 : decode method_3_code 156 = .ok (.iload 6, 2) := by decide +kernel
theorem d2_158 : decode method_3_code 158 = .ok (.ldc 13, 2) := by decide +kernel
theorem d2_160 : decode method_3_code 160 = .ok (.if_icmp .lt 12, 3) := by decide +kernel
theorem d2_172 : decode method_3_code 172 = .ok (.iconst 3, 1) := by decide +kernel
theorem d2_173 : decode method_3_code 173 = .ok (.ireturn, 1) := by decide +kernel
theorem d2_163 : decode method_3_code 163 = .ok (.iload 6, 2) := by decide +kernel
theorem d2_165 : decode method_3_code 165 = .ok (.ldc 14, 2) := by decide +kernel
theorem d2_167 : decode method_3_code 167 = .ok (.if_icmp .gt 5, 3) := by decide +kernel
theorem d2_170 : decode method_3_code 170 = .ok (.iconst 0, 1) := by decide +kernel
theorem d2_171 : decode method_3_code 171 = .ok (.ireturn, 1) := by decide +kernel
theorem d2_154 : decode method_3_code 154 = .ok (.iconst 0, 1) := by decide +kernel
theorem d2_155 : decode method_3_code 155 = .ok (.ireturn, 1) := by decide +kernel
theorem d2_122 : decode method_3_code 122 = .ok (.iconst 0, 1) := by decide +kernel
theorem d2_123 : decode method_3_code 123 = .ok (.ireturn, 1) := by decide +kernel
theorem d2_16 : decode method_3_code 16 = .ok (.iconst 2, 1) := by decide +kernel
theorem d2_17 : decode method_3_code 17 = .ok (.istore 5, 2) := by decide +kernel
theorem d2_19 : decode method_3_code 19 = .ok (.goto 31, 3) := by decide +kernel
theorem d2_65 : decode method_3_code 65 = .ok (.iload_n 1, 1) := by decide +kernel
theorem d2_66 : decode method_3_code 66 = .ok (.invokestatic 7, 3) := by decide +kernel
theorem d2_69 : decode method_3_code 69 = .ok (.ifCond .ne 5, 3) := by decide +kernel
theorem d2_74 : decode method_3_code 74 = .ok (.iload_n 0, 1) := by decide +kernel
theorem d2_75 : decode method_3_code 75 = .ok (.bipush 31, 2) := by decide +kernel
theorem d2_77 : decode method_3_code 77 = .ok (.iand, 1) := by decide +kernel
theorem d2_78 : decode method_3_code 78 = .ok (.bipush 6, 2) := by decide +kernel
theorem d2_80 : decode method_3_code 80 = .ok (.ishl, 1) := by decide +kernel
theorem d2_81 : decode method_3_code 81 = .ok (.iload_n 1, 1) := by decide +kernel
theorem d2_82 : decode method_3_code 82 = .ok (.bipush 63, 2) := by decide +kernel
theorem d2_84 : decode method_3_code 84 = .ok (.iand, 1) := by decide +kernel
theorem d2_85 : decode method_3_code 85 = .ok (.ior, 1) := by decide +kernel
theorem d2_86 : decode method_3_code 86 = .ok (.istore 6, 2) := by decide +kernel
theorem d2_88 : decode method_3_code 88 = .ok (.iload 6, 2) := by decide +kernel
theorem d2_90 : decode method_3_code 90 = .ok (.sipush 128, 3) := by decide +kernel
theorem d2_93 : decode method_3_code 93 = .ok (.if_icmp .lt 7, 3) := by decide +kernel
theorem d2_100 : decode method_3_code 100 = .ok (.iconst 0, 1) := by decide +kernel
theorem d2_101 : decode method_3_code 101 = .ok (.ireturn, 1) := by decide +kernel
theorem d2_96 : decode method_3_code 96 = .ok (.iconst 2, 1) := by decide +kernel
theorem d2_97 : decode method_3_code 97 = .ok (.goto 4, 3) := by decide +kernel
theorem d2_72 : decode method_3_code 72 = .ok (.iconst 0, 1) := by decide +kernel
theorem d2_73 : decode method_3_code 73 = .ok (.ireturn, 1) := by decide +kernel
theorem d2_7 : decode method_3_code 7 = .ok (.iconst 0, 1) := by decide +kernel
theorem d2_8 : decode method_3_code 8 = .ok (.ireturn, 1) := by decide +kernel
theorem pn_2 : plainFor (⟨"com/example/dhole/dhole/read/Utf8SequenceLengthPinLaw", "expected", "(IIIII)I"⟩ : MethodName) = true := plainFor_of_name (by first | (simp [plainName, overriddenIn]; done) | decide +kernel)
set_option maxHeartbeats 4000000 in
theorem c_exp (l : Launch) (Z : State) (a0 : Array Value) (hw : OW Z a0) (n0 : Nat) (b0 b1 b2 b3 av : Int32) (h0 : Heap) (Z0 : n0 ≤ h0.size) (h1 : 128 ≤ b0.toInt ∧ b0.toInt ≤ 255 ∧ 0 ≤ b1.toInt ∧ b1.toInt ≤ 255 ∧ 0 ≤ b2.toInt ∧ b2.toInt ≤ 255 ∧ 0 ≤ b3.toInt ∧ b3.toInt ≤ 255) :
    OCon l Z n0 (⟨"com/example/dhole/dhole/read/Utf8SequenceLengthPinLaw", "expected", "(IIIII)I"⟩ : MethodName) method_3_code 7 (some .int) ({ frames := 1, cells := 0, slots := 0, locals := 20 } : Room) #[(.int b0), (.int b1), (.int b2), (.int b3), (.int av)] h0 (fun v h => ∃ r : Int32, v = some (.int r) ∧ r.toInt = own_len b0.toInt b1.toInt b2.toInt b3.toInt av.toInt ∧ h = h0) := by
  refine OCon.of (Ls := #[.val (.int b0), .val (.int b1), .val (.int b2), .val (.int b3), .val (.int av), .unset, .unset]) pn_2 rfl rfl (fun m => by first | (simp [entryFrame, mkF, argsToLocals, Value.category]; done) | rfl) ?_
  intro p e s m below meth c T0 X0 K e0
  have N0 := Fr.nil n0
  have l0 : (0 : Int32).toInt = 0 := rfl
  have l1 : (1 : Int32).toInt = 1 := rfl
  have l2 : (2 : Int32).toInt = 2 := rfl
  have l3 : (3 : Int32).toInt = 3 := rfl
  have l4 : (4 : Int32).toInt = 4 := rfl
  have l6 : (6 : Int32).toInt = 6 := rfl
  have l7 : (7 : Int32).toInt = 7 := rfl
  have l12 : (12 : Int32).toInt = 12 := rfl
  have l15 : (15 : Int32).toInt = 15 := rfl
  have l18 : (18 : Int32).toInt = 18 := rfl
  have l31 : (31 : Int32).toInt = 31 := rfl
  have l63 : (63 : Int32).toInt = 63 := rfl
  have l128 : (128 : Int32).toInt = 128 := rfl
  have l192 : (192 : Int32).toInt = 192 := rfl
  have l224 : (224 : Int32).toInt = 224 := rfl
  have l240 : (240 : Int32).toInt = 240 := rfl
  have l248 : (248 : Int32).toInt = 248 := rfl
  have l2048 : (2048 : Int32).toInt = 2048 := rfl
  have l55296 : (55296 : Int32).toInt = 55296 := rfl
  have l57343 : (57343 : Int32).toInt = 57343 := rfl
  have l65536 : (65536 : Int32).toInt = 65536 := rfl
  have l1114111 : (1114111 : Int32).toInt = 1114111 := rfl
  have hc1 := own_cont (b := b1) (by omega)
  have hc2 := own_cont (b := b2) (by omega)
  have hc3 := own_cont (b := b3) (by omega)
  refine o_iloadN X0 K d2_0 1 rfl rfl ?_
  refine o_sipush X0 K (192 : Int32) d2_1 4 rfl rfl ?_
  refine o_icmp_ge X0 K d2_4 9 (by decide) (by decide) 7 rfl (fun hc4 => ?_) (fun hc4 => ?_)
  · refine o_iloadN X0 K d2_9 10 rfl rfl ?_
    refine o_sipush X0 K (224 : Int32) d2_10 13 rfl rfl ?_
    refine o_icmp_ge X0 K d2_13 22 (by decide) (by decide) 16 rfl (fun hc13 => ?_) (fun hc13 => ?_)
    · refine o_iloadN X0 K d2_22 23 rfl rfl ?_
      refine o_sipush X0 K (240 : Int32) d2_23 26 rfl rfl ?_
      refine o_icmp_ge X0 K d2_26 35 (by decide) (by decide) 29 rfl (fun hc26 => ?_) (fun hc26 => ?_)
      · refine o_iloadN X0 K d2_35 36 rfl rfl ?_
        refine o_sipush X0 K (248 : Int32) d2_36 39 rfl rfl ?_
        refine o_icmp_ge X0 K d2_39 48 (by decide) (by decide) 42 rfl (fun hc39 => ?_) (fun hc39 => ?_)
        · refine o_iconst X0 K (0 : Int32) d2_48 49 rfl rfl ?_
          refine o_ireturn X0 K d2_49 (by decide) (by decide) N0 ?_
          refine ⟨_, rfl, ?_, e0⟩
          clear X0 K e0 N0
          simp only [own_len]
          repeat' split
          all_goals omega
        · refine o_iconst X0 K (4 : Int32) d2_42 43 rfl rfl ?_
          refine o_istore X0 K d2_43 45 rfl #[.val (.int b0), .val (.int b1), .val (.int b2), .val (.int b3), .val (.int av), .val (.int (4 : Int32)), .unset] rfl rfl ?_
          refine o_goto X0 K d2_45 50 (by decide) (by decide) ?_
          refine o_iload X0 K d2_50 52 rfl rfl ?_
          refine o_iload X0 K d2_52 54 rfl rfl ?_
          refine o_icmp_le X0 K d2_54 59 (by decide) (by decide) 57 rfl (fun hc54 => ?_) (fun hc54 => ?_)
          · refine o_iload X0 K d2_59 61 rfl rfl ?_
            refine o_iconst X0 K (2 : Int32) d2_61 62 rfl rfl ?_
            refine o_icmp_ne_t X0 K d2_62 102 (by decide) (by decide) (by decide) ?_
            refine o_iload X0 K d2_102 104 rfl rfl ?_
            refine o_iconst X0 K (3 : Int32) d2_104 105 rfl rfl ?_
            refine o_icmp_ne_t X0 K d2_105 174 (by decide) (by decide) (by decide) ?_
            refine o_iloadN X0 K d2_174 175 rfl rfl ?_
            refine o_invokestatic X0 K d2_175 178 rfl (w_13 hw) (w_14 hw) (w_8 hw) (w_15 hw) (by decide) [(.int b1)] [] rfl  (c_cont l Z a0 hw n0 b1 h0 Z0) e0 rfl (lenOf pd__I_Z rfl) (by decide) 0 (Nat.le_of_eq rfl) (by decide) (by decide) (by decide) N0 ?_
            rintro _ T_50 h_50 locs_50 X_50 q_50 ⟨rv_50, rfl, hb_50, r_50⟩ N_50
            have e_50 := q_50.trans r_50
            show OGo p e below s n0 _ _ _ (T_50.setTop (mkF m 178 #[.val (.int b0), .val (.int b1), .val (.int b2), .val (.int b3), .val (.int av), .val (.int (4 : Int32)), .unset] [(.int rv_50)]))
            rcases hb_50 with ⟨rfl, hr_rv_50⟩ | ⟨rfl, hr_rv_50⟩
            · skip
              rw [hc1] at hr_rv_50
              refine o_if_eq_f X_50 K d2_178 181 rfl (by decide) ?_
              refine o_iloadN X_50 K d2_181 182 rfl rfl ?_
              refine o_invokestatic X_50 K d2_182 185 rfl (w_13 hw) (w_14 hw) (w_8 hw) (w_15 hw) (by decide) [(.int b2)] [] rfl  (c_cont l Z a0 hw n0 b2 h0 Z0) e_50 rfl (lenOf pd__I_Z rfl) (by decide) 0 (Nat.le_of_eq rfl) (by decide) (by decide) (by decide) N_50 ?_
              rintro _ T_51 h_51 locs_51 X_51 q_51 ⟨rv_51, rfl, hb_51, r_51⟩ N_51
              have e_51 := q_51.trans r_51
              show OGo p e below s n0 _ _ _ (T_51.setTop (mkF m 185 #[.val (.int b0), .val (.int b1), .val (.int b2), .val (.int b3), .val (.int av), .val (.int (4 : Int32)), .unset] [(.int rv_51)]))
              rcases hb_51 with ⟨rfl, hr_rv_51⟩ | ⟨rfl, hr_rv_51⟩
              · skip
                rw [hc2] at hr_rv_51
                refine o_if_eq_f X_51 K d2_185 188 rfl (by decide) ?_
                refine o_iloadN X_51 K d2_188 189 rfl rfl ?_
                refine o_invokestatic X_51 K d2_189 192 rfl (w_13 hw) (w_14 hw) (w_8 hw) (w_15 hw) (by decide) [(.int b3)] [] rfl  (c_cont l Z a0 hw n0 b3 h0 Z0) e_51 rfl (lenOf pd__I_Z rfl) (by decide) 0 (Nat.le_of_eq rfl) (by decide) (by decide) (by decide) N_51 ?_
                rintro _ T_52 h_52 locs_52 X_52 q_52 ⟨rv_52, rfl, hb_52, r_52⟩ N_52
                have e_52 := q_52.trans r_52
                show OGo p e below s n0 _ _ _ (T_52.setTop (mkF m 192 #[.val (.int b0), .val (.int b1), .val (.int b2), .val (.int b3), .val (.int av), .val (.int (4 : Int32)), .unset] [(.int rv_52)]))
                rcases hb_52 with ⟨rfl, hr_rv_52⟩ | ⟨rfl, hr_rv_52⟩
                · skip
                  rw [hc3] at hr_rv_52
                  refine o_if_ne_t X_52 K d2_192 197 (by decide) (by decide) (by decide) ?_
                  refine o_iloadN X_52 K d2_197 198 rfl rfl ?_
                  refine o_bipush X_52 K (7 : Int32) d2_198 200 rfl rfl ?_
                  refine o_iand X_52 K d2_200 201 rfl ?_
                  refine o_bipush X_52 K (18 : Int32) d2_201 203 rfl rfl ?_
                  refine o_ishl X_52 K d2_203 204 rfl ?_
                  refine o_iloadN X_52 K d2_204 205 rfl rfl ?_
                  refine o_bipush X_52 K (63 : Int32) d2_205 207 rfl rfl ?_
                  refine o_iand X_52 K d2_207 208 rfl ?_
                  refine o_bipush X_52 K (12 : Int32) d2_208 210 rfl rfl ?_
                  refine o_ishl X_52 K d2_210 211 rfl ?_
                  refine o_ior X_52 K d2_211 212 rfl ?_
                  refine o_iloadN X_52 K d2_212 213 rfl rfl ?_
                  refine o_bipush X_52 K (63 : Int32) d2_213 215 rfl rfl ?_
                  refine o_iand X_52 K d2_215 216 rfl ?_
                  refine o_bipush X_52 K (6 : Int32) d2_216 218 rfl rfl ?_
                  refine o_ishl X_52 K d2_218 219 rfl ?_
                  refine o_ior X_52 K d2_219 220 rfl ?_
                  refine o_iloadN X_52 K d2_220 221 rfl rfl ?_
                  refine o_bipush X_52 K (63 : Int32) d2_221 223 rfl rfl ?_
                  refine o_iand X_52 K d2_223 224 rfl ?_
                  refine o_ior X_52 K d2_224 225 rfl ?_
                  obtain ⟨cp, h_cp⟩ : ∃ z_ : Int32, z_ = (((((b0 &&& (7 : Int32)) <<< ((18 : Int32) &&& 31)) ||| ((b1 &&& (63 : Int32)) <<< ((12 : Int32) &&& 31))) ||| ((b2 &&& (63 : Int32)) <<< ((6 : Int32) &&& 31))) ||| (b3 &&& (63 : Int32))) := ⟨_, rfl⟩
                  refine o_istore X_52 K d2_225 227 rfl #[.val (.int b0), .val (.int b1), .val (.int b2), .val (.int b3), .val (.int av), .val (.int (4 : Int32)), .val (.int cp)] h_cp.symm rfl ?_
                  have hcp := own_cp4 b0 b1 b2 b3; rw [← h_cp] at hcp
                  refine o_iload X_52 K d2_227 229 rfl rfl ?_
                  refine o_ldcI X_52 K d2_229 231 rfl (w_18 hw) ?_
                  refine o_icmp_lt X_52 K d2_231 241 (by decide) (by decide) 234 rfl (fun hc231 => ?_) (fun hc231 => ?_)
                  · refine o_iconst X_52 K (0 : Int32) d2_241 242 rfl rfl ?_
                    refine o_ireturn X_52 K d2_242 (by decide) (by decide) N_52 ?_
                    refine ⟨_, rfl, ?_, e_52⟩
                    clear X0 K e0 N0
                    simp only [own_len]
                    repeat' split
                    all_goals omega
                  · refine o_iload X_52 K d2_234 236 rfl rfl ?_
                    refine o_ldcI X_52 K d2_236 238 rfl (w_19 hw) ?_
                    refine o_icmp_le X_52 K d2_238 243 (by decide) (by decide) 241 rfl (fun hc238 => ?_) (fun hc238 => ?_)
                    · refine o_iconst X_52 K (4 : Int32) d2_243 244 rfl rfl ?_
                      refine o_ireturn X_52 K d2_244 (by decide) (by decide) N_52 ?_
                      refine ⟨_, rfl, ?_, e_52⟩
                      clear X0 K e0 N0
                      simp only [own_len]
                      repeat' split
                      all_goals omega
                    · refine o_iconst X_52 K (0 : Int32) d2_241 242 rfl rfl ?_
                      refine o_ireturn X_52 K d2_242 (by decide) (by decide) N_52 ?_
                      refine ⟨_, rfl, ?_, e_52⟩
                      clear X0 K e0 N0
                      simp only [own_len]
                      repeat' split
                      all_goals omega
                · skip
                  rw [hc3] at hr_rv_52
                  refine o_if_ne_f X_52 K d2_192 195 rfl (by decide) ?_
                  refine o_iconst X_52 K (0 : Int32) d2_195 196 rfl rfl ?_
                  refine o_ireturn X_52 K d2_196 (by decide) (by decide) N_52 ?_
                  refine ⟨_, rfl, ?_, e_52⟩
                  clear X0 K e0 N0
                  simp only [own_len]
                  repeat' split
                  all_goals omega
              · skip
                rw [hc2] at hr_rv_51
                refine o_if_eq_t X_51 K d2_185 195 (by decide) (by decide) (by decide) ?_
                refine o_iconst X_51 K (0 : Int32) d2_195 196 rfl rfl ?_
                refine o_ireturn X_51 K d2_196 (by decide) (by decide) N_51 ?_
                refine ⟨_, rfl, ?_, e_51⟩
                clear X0 K e0 N0
                simp only [own_len]
                repeat' split
                all_goals omega
            · skip
              rw [hc1] at hr_rv_50
              refine o_if_eq_t X_50 K d2_178 195 (by decide) (by decide) (by decide) ?_
              refine o_iconst X_50 K (0 : Int32) d2_195 196 rfl rfl ?_
              refine o_ireturn X_50 K d2_196 (by decide) (by decide) N_50 ?_
              refine ⟨_, rfl, ?_, e_50⟩
              clear X0 K e0 N0
              simp only [own_len]
              repeat' split
              all_goals omega
          · refine o_iconst X0 K (0 : Int32) d2_57 58 rfl rfl ?_
            refine o_ireturn X0 K d2_58 (by decide) (by decide) N0 ?_
            refine ⟨_, rfl, ?_, e0⟩
            clear X0 K e0 N0
            simp only [own_len]
            repeat' split
            all_goals omega
      · refine o_iconst X0 K (3 : Int32) d2_29 30 rfl rfl ?_
        refine o_istore X0 K d2_30 32 rfl #[.val (.int b0), .val (.int b1), .val (.int b2), .val (.int b3), .val (.int av), .val (.int (3 : Int32)), .unset] rfl rfl ?_
        refine o_goto X0 K d2_32 50 (by decide) (by decide) ?_
        refine o_iload X0 K d2_50 52 rfl rfl ?_
        refine o_iload X0 K d2_52 54 rfl rfl ?_
        refine o_icmp_le X0 K d2_54 59 (by decide) (by decide) 57 rfl (fun hc54 => ?_) (fun hc54 => ?_)
        · refine o_iload X0 K d2_59 61 rfl rfl ?_
          refine o_iconst X0 K (2 : Int32) d2_61 62 rfl rfl ?_
          refine o_icmp_ne_t X0 K d2_62 102 (by decide) (by decide) (by decide) ?_
          refine o_iload X0 K d2_102 104 rfl rfl ?_
          refine o_iconst X0 K (3 : Int32) d2_104 105 rfl rfl ?_
          refine o_icmp_ne_f X0 K d2_105 108 rfl (by decide) ?_
          refine o_iloadN X0 K d2_108 109 rfl rfl ?_
          refine o_invokestatic X0 K d2_109 112 rfl (w_13 hw) (w_14 hw) (w_8 hw) (w_15 hw) (by decide) [(.int b1)] [] rfl  (c_cont l Z a0 hw n0 b1 h0 Z0) e0 rfl (lenOf pd__I_Z rfl) (by decide) 0 (Nat.le_of_eq rfl) (by decide) (by decide) (by decide) N0 ?_
          rintro _ T_53 h_53 locs_53 X_53 q_53 ⟨rv_53, rfl, hb_53, r_53⟩ N_53
          have e_53 := q_53.trans r_53
          show OGo p e below s n0 _ _ _ (T_53.setTop (mkF m 112 #[.val (.int b0), .val (.int b1), .val (.int b2), .val (.int b3), .val (.int av), .val (.int (3 : Int32)), .unset] [(.int rv_53)]))
          rcases hb_53 with ⟨rfl, hr_rv_53⟩ | ⟨rfl, hr_rv_53⟩
          · skip
            rw [hc1] at hr_rv_53
            refine o_if_eq_f X_53 K d2_112 115 rfl (by decide) ?_
            refine o_iloadN X_53 K d2_115 116 rfl rfl ?_
            refine o_invokestatic X_53 K d2_116 119 rfl (w_13 hw) (w_14 hw) (w_8 hw) (w_15 hw) (by decide) [(.int b2)] [] rfl  (c_cont l Z a0 hw n0 b2 h0 Z0) e_53 rfl (lenOf pd__I_Z rfl) (by decide) 0 (Nat.le_of_eq rfl) (by decide) (by decide) (by decide) N_53 ?_
            rintro _ T_54 h_54 locs_54 X_54 q_54 ⟨rv_54, rfl, hb_54, r_54⟩ N_54
            have e_54 := q_54.trans r_54
            show OGo p e below s n0 _ _ _ (T_54.setTop (mkF m 119 #[.val (.int b0), .val (.int b1), .val (.int b2), .val (.int b3), .val (.int av), .val (.int (3 : Int32)), .unset] [(.int rv_54)]))
            rcases hb_54 with ⟨rfl, hr_rv_54⟩ | ⟨rfl, hr_rv_54⟩
            · skip
              rw [hc2] at hr_rv_54
              refine o_if_ne_t X_54 K d2_119 124 (by decide) (by decide) (by decide) ?_
              refine o_iloadN X_54 K d2_124 125 rfl rfl ?_
              refine o_bipush X_54 K (15 : Int32) d2_125 127 rfl rfl ?_
              refine o_iand X_54 K d2_127 128 rfl ?_
              refine o_bipush X_54 K (12 : Int32) d2_128 130 rfl rfl ?_
              refine o_ishl X_54 K d2_130 131 rfl ?_
              refine o_iloadN X_54 K d2_131 132 rfl rfl ?_
              refine o_bipush X_54 K (63 : Int32) d2_132 134 rfl rfl ?_
              refine o_iand X_54 K d2_134 135 rfl ?_
              refine o_bipush X_54 K (6 : Int32) d2_135 137 rfl rfl ?_
              refine o_ishl X_54 K d2_137 138 rfl ?_
              refine o_ior X_54 K d2_138 139 rfl ?_
              refine o_iloadN X_54 K d2_139 140 rfl rfl ?_
              refine o_bipush X_54 K (63 : Int32) d2_140 142 rfl rfl ?_
              refine o_iand X_54 K d2_142 143 rfl ?_
              refine o_ior X_54 K d2_143 144 rfl ?_
              obtain ⟨cp, h_cp⟩ : ∃ z_ : Int32, z_ = ((((b0 &&& (15 : Int32)) <<< ((12 : Int32) &&& 31)) ||| ((b1 &&& (63 : Int32)) <<< ((6 : Int32) &&& 31))) ||| (b2 &&& (63 : Int32))) := ⟨_, rfl⟩
              refine o_istore X_54 K d2_144 146 rfl #[.val (.int b0), .val (.int b1), .val (.int b2), .val (.int b3), .val (.int av), .val (.int (3 : Int32)), .val (.int cp)] h_cp.symm rfl ?_
              have hcp := own_cp3 b0 b1 b2; rw [← h_cp] at hcp
              refine o_iload X_54 K d2_146 148 rfl rfl ?_
              refine o_sipush X_54 K (2048 : Int32) d2_148 151 rfl rfl ?_
              refine o_icmp_ge X_54 K d2_151 156 (by decide) (by decide) 154 rfl (fun hc151 => ?_) (fun hc151 => ?_)
              · refine o_iload X_54 K d2_156 158 rfl rfl ?_
                refine o_ldcI X_54 K d2_158 160 rfl (w_16 hw) ?_
                refine o_icmp_lt X_54 K d2_160 172 (by decide) (by decide) 163 rfl (fun hc160 => ?_) (fun hc160 => ?_)
                · refine o_iconst X_54 K (3 : Int32) d2_172 173 rfl rfl ?_
                  refine o_ireturn X_54 K d2_173 (by decide) (by decide) N_54 ?_
                  refine ⟨_, rfl, ?_, e_54⟩
                  clear X0 K e0 N0
                  simp only [own_len]
                  repeat' split
                  all_goals omega
                · refine o_iload X_54 K d2_163 165 rfl rfl ?_
                  refine o_ldcI X_54 K d2_165 167 rfl (w_17 hw) ?_
                  refine o_icmp_gt X_54 K d2_167 172 (by decide) (by decide) 170 rfl (fun hc167 => ?_) (fun hc167 => ?_)
                  · refine o_iconst X_54 K (3 : Int32) d2_172 173 rfl rfl ?_
                    refine o_ireturn X_54 K d2_173 (by decide) (by decide) N_54 ?_
                    refine ⟨_, rfl, ?_, e_54⟩
                    clear X0 K e0 N0
                    simp only [own_len]
                    repeat' split
                    all_goals omega
                  · refine o_iconst X_54 K (0 : Int32) d2_170 171 rfl rfl ?_
                    refine o_ireturn X_54 K d2_171 (by decide) (by decide) N_54 ?_
                    refine ⟨_, rfl, ?_, e_54⟩
                    clear X0 K e0 N0
                    simp only [own_len]
                    repeat' split
                    all_goals omega
              · refine o_iconst X_54 K (0 : Int32) d2_154 155 rfl rfl ?_
                refine o_ireturn X_54 K d2_155 (by decide) (by decide) N_54 ?_
                refine ⟨_, rfl, ?_, e_54⟩
                clear X0 K e0 N0
                simp only [own_len]
                repeat' split
                all_goals omega
            · skip
              rw [hc2] at hr_rv_54
              refine o_if_ne_f X_54 K d2_119 122 rfl (by decide) ?_
              refine o_iconst X_54 K (0 : Int32) d2_122 123 rfl rfl ?_
              refine o_ireturn X_54 K d2_123 (by decide) (by decide) N_54 ?_
              refine ⟨_, rfl, ?_, e_54⟩
              clear X0 K e0 N0
              simp only [own_len]
              repeat' split
              all_goals omega
          · skip
            rw [hc1] at hr_rv_53
            refine o_if_eq_t X_53 K d2_112 122 (by decide) (by decide) (by decide) ?_
            refine o_iconst X_53 K (0 : Int32) d2_122 123 rfl rfl ?_
            refine o_ireturn X_53 K d2_123 (by decide) (by decide) N_53 ?_
            refine ⟨_, rfl, ?_, e_53⟩
            clear X0 K e0 N0
            simp only [own_len]
            repeat' split
            all_goals omega
        · refine o_iconst X0 K (0 : Int32) d2_57 58 rfl rfl ?_
          refine o_ireturn X0 K d2_58 (by decide) (by decide) N0 ?_
          refine ⟨_, rfl, ?_, e0⟩
          clear X0 K e0 N0
          simp only [own_len]
          repeat' split
          all_goals omega
    · refine o_iconst X0 K (2 : Int32) d2_16 17 rfl rfl ?_
      refine o_istore X0 K d2_17 19 rfl #[.val (.int b0), .val (.int b1), .val (.int b2), .val (.int b3), .val (.int av), .val (.int (2 : Int32)), .unset] rfl rfl ?_
      refine o_goto X0 K d2_19 50 (by decide) (by decide) ?_
      refine o_iload X0 K d2_50 52 rfl rfl ?_
      refine o_iload X0 K d2_52 54 rfl rfl ?_
      refine o_icmp_le X0 K d2_54 59 (by decide) (by decide) 57 rfl (fun hc54 => ?_) (fun hc54 => ?_)
      · refine o_iload X0 K d2_59 61 rfl rfl ?_
        refine o_iconst X0 K (2 : Int32) d2_61 62 rfl rfl ?_
        refine o_icmp_ne_f X0 K d2_62 65 rfl (by decide) ?_
        refine o_iloadN X0 K d2_65 66 rfl rfl ?_
        refine o_invokestatic X0 K d2_66 69 rfl (w_13 hw) (w_14 hw) (w_8 hw) (w_15 hw) (by decide) [(.int b1)] [] rfl  (c_cont l Z a0 hw n0 b1 h0 Z0) e0 rfl (lenOf pd__I_Z rfl) (by decide) 0 (Nat.le_of_eq rfl) (by decide) (by decide) (by decide) N0 ?_
        rintro _ T_55 h_55 locs_55 X_55 q_55 ⟨rv_55, rfl, hb_55, r_55⟩ N_55
        have e_55 := q_55.trans r_55
        show OGo p e below s n0 _ _ _ (T_55.setTop (mkF m 69 #[.val (.int b0), .val (.int b1), .val (.int b2), .val (.int b3), .val (.int av), .val (.int (2 : Int32)), .unset] [(.int rv_55)]))
        rcases hb_55 with ⟨rfl, hr_rv_55⟩ | ⟨rfl, hr_rv_55⟩
        · skip
          rw [hc1] at hr_rv_55
          refine o_if_ne_t X_55 K d2_69 74 (by decide) (by decide) (by decide) ?_
          refine o_iloadN X_55 K d2_74 75 rfl rfl ?_
          refine o_bipush X_55 K (31 : Int32) d2_75 77 rfl rfl ?_
          refine o_iand X_55 K d2_77 78 rfl ?_
          refine o_bipush X_55 K (6 : Int32) d2_78 80 rfl rfl ?_
          refine o_ishl X_55 K d2_80 81 rfl ?_
          refine o_iloadN X_55 K d2_81 82 rfl rfl ?_
          refine o_bipush X_55 K (63 : Int32) d2_82 84 rfl rfl ?_
          refine o_iand X_55 K d2_84 85 rfl ?_
          refine o_ior X_55 K d2_85 86 rfl ?_
          obtain ⟨cp, h_cp⟩ : ∃ z_ : Int32, z_ = (((b0 &&& (31 : Int32)) <<< ((6 : Int32) &&& 31)) ||| (b1 &&& (63 : Int32))) := ⟨_, rfl⟩
          refine o_istore X_55 K d2_86 88 rfl #[.val (.int b0), .val (.int b1), .val (.int b2), .val (.int b3), .val (.int av), .val (.int (2 : Int32)), .val (.int cp)] h_cp.symm rfl ?_
          have hcp := own_cp2 b0 b1; rw [← h_cp] at hcp
          refine o_iload X_55 K d2_88 90 rfl rfl ?_
          refine o_sipush X_55 K (128 : Int32) d2_90 93 rfl rfl ?_
          refine o_icmp_lt X_55 K d2_93 100 (by decide) (by decide) 96 rfl (fun hc93 => ?_) (fun hc93 => ?_)
          · refine o_iconst X_55 K (0 : Int32) d2_100 101 rfl rfl ?_
            refine o_ireturn X_55 K d2_101 (by decide) (by decide) N_55 ?_
            refine ⟨_, rfl, ?_, e_55⟩
            clear X0 K e0 N0
            simp only [own_len]
            repeat' split
            all_goals omega
          · refine o_iconst X_55 K (2 : Int32) d2_96 97 rfl rfl ?_
            refine o_goto X_55 K d2_97 101 (by decide) (by decide) ?_
            refine o_ireturn X_55 K d2_101 (by decide) (by decide) N_55 ?_
            refine ⟨_, rfl, ?_, e_55⟩
            clear X0 K e0 N0
            simp only [own_len]
            repeat' split
            all_goals omega
        · skip
          rw [hc1] at hr_rv_55
          refine o_if_ne_f X_55 K d2_69 72 rfl (by decide) ?_
          refine o_iconst X_55 K (0 : Int32) d2_72 73 rfl rfl ?_
          refine o_ireturn X_55 K d2_73 (by decide) (by decide) N_55 ?_
          refine ⟨_, rfl, ?_, e_55⟩
          clear X0 K e0 N0
          simp only [own_len]
          repeat' split
          all_goals omega
      · refine o_iconst X0 K (0 : Int32) d2_57 58 rfl rfl ?_
        refine o_ireturn X0 K d2_58 (by decide) (by decide) N0 ?_
        refine ⟨_, rfl, ?_, e0⟩
        clear X0 K e0 N0
        simp only [own_len]
        repeat' split
        all_goals omega
  · refine o_iconst X0 K (0 : Int32) d2_7 8 rfl rfl ?_
    refine o_ireturn X0 K d2_8 (by decide) (by decide) N0 ?_
    refine ⟨_, rfl, ?_, e0⟩
    clear X0 K e0 N0
    simp only [own_len]
    repeat' split
    all_goals omega
theorem pd___BII_I : parseMethodDescriptor "([BII)I" = some ⟨[(.array .byte), .int, .int], some .int⟩ := by decide +kernel
theorem pd__IIIII_I : parseMethodDescriptor "(IIIII)I" = some ⟨[.int, .int, .int, .int, .int], some .int⟩ := by decide +kernel
theorem pn_0 : plainFor x = true := plainFor_of_name (by first | (simp [plainName, overriddenIn, x]; done) | decide +kernel)
set_option maxHeartbeats 4000000 in
theorem rm0 (l : Launch) (Z : State) (a0 : Array Value) (hw : OW Z a0) (n0 : Nat) (p0 p1 p2 p3 p4 p5 : Int32) (h0 : Heap) (Z0 : n0 ≤ h0.size) :
    OCon l Z n0 x code maxLocals ret room_1 #[(.int p0), (.int p1), (.int p2), (.int p3), (.int p4), (.int p5)] h0 (fun v _ => v = some (.int 1)) := by
  refine OCon.of (Ls := #[.val (.int p0), .val (.int p1), .val (.int p2), .val (.int p3), .val (.int p4), .val (.int p5), .unset, .unset, .unset, .unset, .unset, .unset, .unset, .unset, .unset]) pn_0 rfl rfl (fun m => by first | (simp [entryFrame, mkF, argsToLocals, Value.category, maxLocals]; done) | rfl) ?_
  intro p e s m below meth c T0 X0 K e0
  have N0 := Fr.nil n0
  have l0 : (0 : Int32).toInt = 0 := rfl
  have l1 : (1 : Int32).toInt = 1 := rfl
  have l2 : (2 : Int32).toInt = 2 := rfl
  have l3 : (3 : Int32).toInt = 3 := rfl
  have l4 : (4 : Int32).toInt = 4 := rfl
  have l5 : (5 : Int32).toInt = 5 := rfl
  have l6 : (6 : Int32).toInt = 6 := rfl
  have l7 : (7 : Int32).toInt = 7 := rfl
  have l8 : (8 : Int32).toInt = 8 := rfl
  have l127 : (127 : Int32).toInt = 127 := rfl
  have l128 : (128 : Int32).toInt = 128 := rfl
  have l255 : (255 : Int32).toInt = 255 := rfl
  have l2147483647 : (2147483647 : Int32).toInt = 2147483647 := rfl
  refine o_sipush X0 K (128 : Int32) at_0 3 rfl rfl ?_
  refine o_iloadN X0 K at_3 4 rfl rfl ?_
  refine o_bipush X0 K (127 : Int32) at_4 6 rfl rfl ?_
  refine o_iand X0 K at_6 7 rfl ?_
  refine o_ior X0 K at_7 8 rfl ?_
  obtain ⟨b0, h_b0⟩ : ∃ z_ : Int32, z_ = ((128 : Int32) ||| (p0 &&& (127 : Int32))) := ⟨_, rfl⟩
  refine o_istore X0 K at_8 10 rfl #[.val (.int p0), .val (.int p1), .val (.int p2), .val (.int p3), .val (.int p4), .val (.int p5), .val (.int b0), .unset, .unset, .unset, .unset, .unset, .unset, .unset, .unset] h_b0.symm rfl ?_
  have hb0 : 128 ≤ b0.toInt ∧ b0.toInt ≤ 255 := by rw [h_b0]; have q1 : (p0 &&& 127).toInt = p0.toInt % 128 := c_mask p0 127 7 (by decide) (by decide); have q2 := own_or (x := 128) (y := p0 &&& 127) 7 (by decide) 128 (by decide) (by decide) (by omega) (by omega) (by decide) (by omega); omega
  refine o_iloadN X0 K at_10 11 rfl rfl ?_
  refine o_sipush X0 K (255 : Int32) at_11 14 rfl rfl ?_
  refine o_iand X0 K at_14 15 rfl ?_
  obtain ⟨b1, h_b1⟩ : ∃ z_ : Int32, z_ = (p1 &&& (255 : Int32)) := ⟨_, rfl⟩
  refine o_istore X0 K at_15 17 rfl #[.val (.int p0), .val (.int p1), .val (.int p2), .val (.int p3), .val (.int p4), .val (.int p5), .val (.int b0), .val (.int b1), .unset, .unset, .unset, .unset, .unset, .unset, .unset] h_b1.symm rfl ?_
  have hb1 : 0 ≤ b1.toInt ∧ b1.toInt ≤ 255 := by rw [h_b1]; have q1 := own_m255 p1; omega
  refine o_iloadN X0 K at_17 18 rfl rfl ?_
  refine o_sipush X0 K (255 : Int32) at_18 21 rfl rfl ?_
  refine o_iand X0 K at_21 22 rfl ?_
  obtain ⟨b2, h_b2⟩ : ∃ z_ : Int32, z_ = (p2 &&& (255 : Int32)) := ⟨_, rfl⟩
  refine o_istore X0 K at_22 24 rfl #[.val (.int p0), .val (.int p1), .val (.int p2), .val (.int p3), .val (.int p4), .val (.int p5), .val (.int b0), .val (.int b1), .val (.int b2), .unset, .unset, .unset, .unset, .unset, .unset] h_b2.symm rfl ?_
  have hb2 : 0 ≤ b2.toInt ∧ b2.toInt ≤ 255 := by rw [h_b2]; have q1 := own_m255 p2; omega
  refine o_iloadN X0 K at_24 25 rfl rfl ?_
  refine o_sipush X0 K (255 : Int32) at_25 28 rfl rfl ?_
  refine o_iand X0 K at_28 29 rfl ?_
  obtain ⟨b3, h_b3⟩ : ∃ z_ : Int32, z_ = (p3 &&& (255 : Int32)) := ⟨_, rfl⟩
  refine o_istore X0 K at_29 31 rfl #[.val (.int p0), .val (.int p1), .val (.int p2), .val (.int p3), .val (.int p4), .val (.int p5), .val (.int b0), .val (.int b1), .val (.int b2), .val (.int b3), .unset, .unset, .unset, .unset, .unset] h_b3.symm rfl ?_
  have hb3 : 0 ≤ b3.toInt ∧ b3.toInt ≤ 255 := by rw [h_b3]; have q1 := own_m255 p3; omega
  refine o_iload X0 K at_31 33 rfl rfl ?_
  refine o_ldcI X0 K at_33 35 rfl (w_0 hw) ?_
  refine o_iand X0 K at_35 36 rfl ?_
  refine o_iconst X0 K (3 : Int32) at_36 37 rfl rfl ?_
  refine o_irem X0 K at_37 38 rfl (by decide) ?_
  obtain ⟨i, h_i⟩ : ∃ z_ : Int32, z_ = ((p4 &&& (2147483647 : Int32)) % (3 : Int32)) := ⟨_, rfl⟩
  refine o_istore X0 K at_38 40 rfl #[.val (.int p0), .val (.int p1), .val (.int p2), .val (.int p3), .val (.int p4), .val (.int p5), .val (.int b0), .val (.int b1), .val (.int b2), .val (.int b3), .val (.int i), .unset, .unset, .unset, .unset] h_i.symm rfl ?_
  have hi : 0 ≤ i.toInt ∧ i.toInt ≤ 2 := by
    rw [h_i]
    have q1 := c_and p4 2147483647 (by decide)
    have q2 := (c_iremV (p4 &&& 2147483647) 3).1 q1.1 (by decide)
    omega
  have hsev : ((7 : Int32) - i).toInt = 7 - i.toInt := by have q1 := c_isub 7 i; have q2 := rng32 (7 - i); omega
  refine o_iload X0 K at_40 42 rfl rfl ?_
  refine o_iconst X0 K (1 : Int32) at_42 43 rfl rfl ?_
  refine o_iadd X0 K at_43 44 rfl ?_
  refine o_iload X0 K at_44 46 rfl rfl ?_
  refine o_ldcI X0 K at_46 48 rfl (w_0 hw) ?_
  refine o_iand X0 K at_48 49 rfl ?_
  refine o_bipush X0 K (7 : Int32) at_49 51 rfl rfl ?_
  refine o_iload X0 K at_51 53 rfl rfl ?_
  refine o_isub X0 K at_53 54 rfl ?_
  refine o_irem X0 K at_54 55 rfl (fun z => by have q1 : ((7 : Int32) - i).toInt = (0 : Int32).toInt := (by rw [z]); omega) ?_
  refine o_iadd X0 K at_55 56 rfl ?_
  obtain ⟨en, h_en⟩ : ∃ z_ : Int32, z_ = ((i + (1 : Int32)) + ((p5 &&& (2147483647 : Int32)) % ((7 : Int32) - i))) := ⟨_, rfl⟩
  refine o_istore X0 K at_56 58 rfl #[.val (.int p0), .val (.int p1), .val (.int p2), .val (.int p3), .val (.int p4), .val (.int p5), .val (.int b0), .val (.int b1), .val (.int b2), .val (.int b3), .val (.int i), .val (.int en), .unset, .unset, .unset] h_en.symm rfl ?_
  have hen : i.toInt + 1 ≤ en.toInt ∧ en.toInt ≤ 7 := by
    rw [h_en]
    have q1 := c_and p5 2147483647 (by decide)
    have q2 := (c_iremV (p5 &&& 2147483647) (7 - i)).1 q1.1 (by omega)
    have q3 := c_iadd i 1
    have q4 := rng32 (i + 1)
    have q5 := c_iadd (i + 1) ((p5 &&& 2147483647) % (7 - i))
    have q6 := rng32 (i + 1 + ((p5 &&& 2147483647) % (7 - i)))
    omega
  refine o_iloadN X0 K at_58 59 rfl rfl ?_
  refine o_bipush X0 K (8 : Int32) at_59 61 rfl rfl ?_
  refine o_iushr X0 K at_61 62 rfl ?_
  refine o_i2b X0 K at_62 63 rfl ?_
  obtain ⟨fl, h_fl⟩ : ∃ z_ : Int32, z_ = (((p0.toUInt32 >>> ((8 : Int32) &&& 31).toUInt32).toInt32).toInt8.toInt32) := ⟨_, rfl⟩
  refine o_istore X0 K at_63 65 rfl #[.val (.int p0), .val (.int p1), .val (.int p2), .val (.int p3), .val (.int p4), .val (.int p5), .val (.int b0), .val (.int b1), .val (.int b2), .val (.int b3), .val (.int i), .val (.int en), .val (.int fl), .unset, .unset] h_fl.symm rfl ?_
  refine o_bipush X0 K (7 : Int32) at_65 67 rfl rfl ?_
  refine o_newarray X0 K (n := 7) at_67 69 rfl (w_1 hw) e0 (by decide) 7 (by decide) (by decide) (by decide) (by decide) rfl ?_
  intro T_56 h_56 ar g_56 X_56 e_56 E_56 A_56
  dsimp only [newarray.typeOf, defaultValue] at A_56
  have Z_56 : n0 ≤ h_56.size := Nat.le_trans Z0 E_56.1
  have g_ar : n0 ≤ ar := by rw [g_56]; exact Z0
  refine o_astore X_56 K at_69 71 rfl #[.val (.int p0), .val (.int p1), .val (.int p2), .val (.int p3), .val (.int p4), .val (.int p5), .val (.int b0), .val (.int b1), .val (.int b2), .val (.int b3), .val (.int i), .val (.int en), .val (.int fl), .val (.ref ar), .unset] rfl rfl ?_
  refine o_aload X_56 K at_71 73 rfl rfl rfl ?_
  refine o_iconst X_56 K (0 : Int32) at_73 74 rfl rfl ?_
  refine o_iload X_56 K at_74 76 rfl rfl ?_
  refine o_bastore X_56 K (i := 0) (x' := fl) at_76 77 rfl e_56 A_56 (by decide) (by decide) (by rw [h_fl]; exact o_nb _) N0 g_ar ?_
  intro T_57 h_57 locs_57 X_57 e_57 W_57 A_57 N_57
  have Z_57 : n0 ≤ h_57.size := by rw [Wr.size W_57]; exact Z_56
  refine o_aload X_57 K at_77 79 rfl rfl rfl ?_
  refine o_iconst X_57 K (1 : Int32) at_79 80 rfl rfl ?_
  refine o_iload X_57 K at_80 82 rfl rfl ?_
  refine o_bastore X_57 K (i := 1) (x' := fl) at_82 83 rfl e_57 A_57 (by decide) (by decide) (by rw [h_fl]; exact o_nb _) N_57 g_ar ?_
  intro T_58 h_58 locs_58 X_58 e_58 W_58 A_58 N_58
  have Z_58 : n0 ≤ h_58.size := by rw [Wr.size W_58]; exact Z_57
  refine o_aload X_58 K at_83 85 rfl rfl rfl ?_
  refine o_iconst X_58 K (2 : Int32) at_85 86 rfl rfl ?_
  refine o_iload X_58 K at_86 88 rfl rfl ?_
  refine o_bastore X_58 K (i := 2) (x' := fl) at_88 89 rfl e_58 A_58 (by decide) (by decide) (by rw [h_fl]; exact o_nb _) N_58 g_ar ?_
  intro T_59 h_59 locs_59 X_59 e_59 W_59 A_59 N_59
  have Z_59 : n0 ≤ h_59.size := by rw [Wr.size W_59]; exact Z_58
  refine o_aload X_59 K at_89 91 rfl rfl rfl ?_
  refine o_iconst X_59 K (3 : Int32) at_91 92 rfl rfl ?_
  refine o_iload X_59 K at_92 94 rfl rfl ?_
  refine o_bastore X_59 K (i := 3) (x' := fl) at_94 95 rfl e_59 A_59 (by decide) (by decide) (by rw [h_fl]; exact o_nb _) N_59 g_ar ?_
  intro T_60 h_60 locs_60 X_60 e_60 W_60 A_60 N_60
  have Z_60 : n0 ≤ h_60.size := by rw [Wr.size W_60]; exact Z_59
  refine o_aload X_60 K at_95 97 rfl rfl rfl ?_
  refine o_iconst X_60 K (4 : Int32) at_97 98 rfl rfl ?_
  refine o_iload X_60 K at_98 100 rfl rfl ?_
  refine o_bastore X_60 K (i := 4) (x' := fl) at_100 101 rfl e_60 A_60 (by decide) (by decide) (by rw [h_fl]; exact o_nb _) N_60 g_ar ?_
  intro T_61 h_61 locs_61 X_61 e_61 W_61 A_61 N_61
  have Z_61 : n0 ≤ h_61.size := by rw [Wr.size W_61]; exact Z_60
  refine o_aload X_61 K at_101 103 rfl rfl rfl ?_
  refine o_iconst X_61 K (5 : Int32) at_103 104 rfl rfl ?_
  refine o_iload X_61 K at_104 106 rfl rfl ?_
  refine o_bastore X_61 K (i := 5) (x' := fl) at_106 107 rfl e_61 A_61 (by decide) (by decide) (by rw [h_fl]; exact o_nb _) N_61 g_ar ?_
  intro T_62 h_62 locs_62 X_62 e_62 W_62 A_62 N_62
  have Z_62 : n0 ≤ h_62.size := by rw [Wr.size W_62]; exact Z_61
  refine o_aload X_62 K at_107 109 rfl rfl rfl ?_
  refine o_bipush X_62 K (6 : Int32) at_109 111 rfl rfl ?_
  refine o_iload X_62 K at_111 113 rfl rfl ?_
  refine o_bastore X_62 K (i := 6) (x' := fl) at_113 114 rfl e_62 A_62 (by decide) (by decide) (by rw [h_fl]; exact o_nb _) N_62 g_ar ?_
  intro T_63 h_63 locs_63 X_63 e_63 W_63 A_63 N_63
  have Z_63 : n0 ≤ h_63.size := by rw [Wr.size W_63]; exact Z_62
  refine o_aload X_63 K at_114 116 rfl rfl rfl ?_
  refine o_iload X_63 K at_116 118 rfl rfl ?_
  refine o_iload X_63 K at_118 120 rfl rfl ?_
  refine o_i2b X_63 K at_120 121 rfl ?_
  refine o_bastore X_63 K (i := (i.toInt.toNat)) (x' := (b0.toInt8.toInt32)) at_121 122 rfl e_63 A_63 (by omega) (by omega) (o_nb _) N_63 g_ar ?_
  intro T_64 h_64 locs_64 X_64 e_64 W_64 A_64 N_64
  have Z_64 : n0 ≤ h_64.size := by rw [Wr.size W_64]; exact Z_63
  refine o_aload X_64 K at_122 124 rfl rfl rfl ?_
  refine o_iload X_64 K at_124 126 rfl rfl ?_
  refine o_iconst X_64 K (1 : Int32) at_126 127 rfl rfl ?_
  refine o_iadd X_64 K at_127 128 rfl ?_
  refine o_iload X_64 K at_128 130 rfl rfl ?_
  refine o_i2b X_64 K at_130 131 rfl ?_
  refine o_bastore X_64 K (i := (i.toInt.toNat + 1)) (x' := (b1.toInt8.toInt32)) at_131 132 rfl e_64 A_64 (by have q1 := c_iadd i 1; have q2 := rng32 (i + 1); omega) (by omega) (o_nb _) N_64 g_ar ?_
  intro T_65 h_65 locs_65 X_65 e_65 W_65 A_65 N_65
  have Z_65 : n0 ≤ h_65.size := by rw [Wr.size W_65]; exact Z_64
  refine o_aload X_65 K at_132 134 rfl rfl rfl ?_
  refine o_iload X_65 K at_134 136 rfl rfl ?_
  refine o_iconst X_65 K (2 : Int32) at_136 137 rfl rfl ?_
  refine o_iadd X_65 K at_137 138 rfl ?_
  refine o_iload X_65 K at_138 140 rfl rfl ?_
  refine o_i2b X_65 K at_140 141 rfl ?_
  refine o_bastore X_65 K (i := (i.toInt.toNat + 2)) (x' := (b2.toInt8.toInt32)) at_141 142 rfl e_65 A_65 (by have q1 := c_iadd i 2; have q2 := rng32 (i + 2); omega) (by omega) (o_nb _) N_65 g_ar ?_
  intro T_66 h_66 locs_66 X_66 e_66 W_66 A_66 N_66
  have Z_66 : n0 ≤ h_66.size := by rw [Wr.size W_66]; exact Z_65
  refine o_aload X_66 K at_142 144 rfl rfl rfl ?_
  refine o_iload X_66 K at_144 146 rfl rfl ?_
  refine o_iconst X_66 K (3 : Int32) at_146 147 rfl rfl ?_
  refine o_iadd X_66 K at_147 148 rfl ?_
  refine o_iload X_66 K at_148 150 rfl rfl ?_
  refine o_i2b X_66 K at_150 151 rfl ?_
  refine o_bastore X_66 K (i := (i.toInt.toNat + 3)) (x' := (b3.toInt8.toInt32)) at_151 152 rfl e_66 A_66 (by have q1 := c_iadd i 3; have q2 := rng32 (i + 3); omega) (by omega) (o_nb _) N_66 g_ar ?_
  intro T_67 h_67 locs_67 X_67 e_67 W_67 A_67 N_67
  have Z_67 : n0 ≤ h_67.size := by rw [Wr.size W_67]; exact Z_66
  have AA : OAr Z h_67 ar .byte 7 (fun j => .int (own_gg i.toInt.toNat fl (b0.toInt8.toInt32) (b1.toInt8.toInt32) (b2.toInt8.toInt32) (b3.toInt8.toInt32) j)) := A_67.congr (fun j hj => by simp only [own_gg]; (repeat' split) <;> first | rfl | omega)
  refine o_aload X_67 K at_152 154 rfl rfl rfl ?_
  refine o_iload X_67 K at_154 156 rfl rfl ?_
  refine o_iload X_67 K at_156 158 rfl rfl ?_
  refine o_invokestatic X_67 K at_158 161 rfl (w_2 hw) (w_3 hw) (w_4 hw) (w_5 hw) (by decide) [(.ref ar), (.int i), (.int en)] [] rfl  (c_seq l Z a0 hw n0 ar 7 (own_gg i.toInt.toNat fl (b0.toInt8.toInt32) (b1.toInt8.toInt32) (b2.toInt8.toInt32) (b3.toInt8.toInt32)) i en h_67 Z_67 AA (by omega)) e_67 rfl (lenOf pd___BII_I rfl) (by decide) 0 (Nat.le_of_eq rfl) (by decide) (by decide) (by decide) N_67 ?_
  rintro _ T_68 h_68 locs_68 X_68 q_68 ⟨rv_68, rfl, hb_68, r_68⟩ N_68
  have e_68 := q_68.trans r_68
  rw [own_g0, own_g1, own_g2, own_g3, own_b8 (by omega), own_b8 hb1, own_b8 hb2, own_b8 hb3] at hb_68
  show OGo p e below s n0 _ _ _ (T_68.setTop (mkF m 161 #[.val (.int p0), .val (.int p1), .val (.int p2), .val (.int p3), .val (.int p4), .val (.int p5), .val (.int b0), .val (.int b1), .val (.int b2), .val (.int b3), .val (.int i), .val (.int en), .val (.int fl), .val (.ref ar), .unset] [(.int rv_68)]))
  refine o_istore X_68 K at_161 163 rfl #[.val (.int p0), .val (.int p1), .val (.int p2), .val (.int p3), .val (.int p4), .val (.int p5), .val (.int b0), .val (.int b1), .val (.int b2), .val (.int b3), .val (.int i), .val (.int en), .val (.int fl), .val (.ref ar), .val (.int rv_68)] rfl rfl ?_
  refine o_iload X_68 K at_163 165 rfl rfl ?_
  refine o_iload X_68 K at_165 167 rfl rfl ?_
  refine o_iload X_68 K at_167 169 rfl rfl ?_
  refine o_iload X_68 K at_169 171 rfl rfl ?_
  refine o_iload X_68 K at_171 173 rfl rfl ?_
  refine o_iload X_68 K at_173 175 rfl rfl ?_
  refine o_iload X_68 K at_175 177 rfl rfl ?_
  refine o_isub X_68 K at_177 178 rfl ?_
  refine o_invokestatic X_68 K at_178 181 rfl (w_6 hw) (w_7 hw) (w_8 hw) (w_9 hw) (by decide) [(.int b0), (.int b1), (.int b2), (.int b3), (.int (en - i))] [(.int rv_68)] rfl  (c_exp l Z a0 hw n0 b0 b1 b2 b3 (en - i) h_67 Z_67 (by omega)) e_68 rfl (lenOf pd__IIIII_I rfl) (by decide) 1 (Nat.le_of_eq rfl) (by decide) (by decide) (by decide) N_68 ?_
  rintro _ T_69 h_69 locs_69 X_69 q_69 ⟨rv_69, rfl, hb_69, r_69⟩ N_69
  have e_69 := q_69.trans r_69
  have hav : (en - i).toInt = en.toInt - i.toInt := by have q1 := c_isub en i; have q2 := rng32 (en - i); omega
  rw [hav] at hb_69
  show OGo p e below s n0 _ _ _ (T_69.setTop (mkF m 181 #[.val (.int p0), .val (.int p1), .val (.int p2), .val (.int p3), .val (.int p4), .val (.int p5), .val (.int b0), .val (.int b1), .val (.int b2), .val (.int b3), .val (.int i), .val (.int en), .val (.int fl), .val (.ref ar), .val (.int rv_68)] [(.int rv_69), (.int rv_68)]))
  refine o_icmp_ne_f X_69 K at_181 184 rfl (Int32.toInt_inj.mp (hb_68.trans hb_69.symm)) ?_
  refine o_iconst X_69 K (1 : Int32) at_184 185 rfl rfl ?_
  refine o_goto X_69 K at_185 189 (by decide) (by decide) ?_
  refine o_ireturnN X_69 K (by decide) at_189 (by decide) (by decide) N_69 ?_
  exact rfl
set_option maxHeartbeats 4000000 in
theorem comes_1 {Post : Tables → Env → Array Value → State → Outcome → State → Prop} (hpost : ∀ tb e args s v u, (limb_1_1.after args s (.returned v) u = true ∧ limb_1_2.after args s (.returned v) u = true ∧ True) → FrameEnd s (.returned v) u (Jvm.fieldLocs frame_1_writes args s ++ Jvm.arrayLocs frame_1_arrays args s ++ Jvm.staticLocs frame_1_statics s) 16 128 → Post tb e args s (.returned v) u) :
    ArmFor flags0 classFile x code maxLocals ret World_1 tables_1 room_1 Calls_1 rest_1 Pre_1 Post := by
  intro l hfl _ _ p e ha hc hk s m args below hf hA hF happ hP
  obtain ⟨hcalls, hrest, hpre⟩ := hP
  obtain ⟨-, -, -, hnamed, -, -, -, hat⟩ := (Spec.applies_iff hf).mp happ
  obtain ⟨hg, hn⟩ := and_e (Cond.before_iff.mp (show (Jvm.Cond.and given_1 narrow_1).before args s = true from hpre))
  obtain ⟨g1, g2⟩ := and_e hg
  obtain ⟨g3, g4⟩ := and_e g2
  obtain ⟨g5, g6⟩ := and_e g4
  obtain ⟨g7, g8⟩ := and_e g6
  obtain ⟨g9, g10⟩ := and_e g8
  obtain ⟨g11, g12⟩ := and_e g10
  obtain ⟨w0, w1, w2, w3, w4, w5, rfl⟩ : ∃ w0 w1 w2 w3 w4 w5 : Value, args = #[w0, w1, w2, w3, w4, w5] := by
    have hs : args.size = 6 := by simpa [Cond.value, given_1] using g1
    obtain ⟨L⟩ := args
    match L, hs with
    | [w0, w1, w2, w3, w4, w5], _ => exact ⟨w0, w1, w2, w3, w4, w5, rfl⟩
  have hw := fun d (hd : d ∈ tables_1) => atoms_spec (ws := Jvm.Cond.code x code maxLocals ret :: tables_1) hat d (List.mem_cons_of_mem _ hd)
  have hfit : Fit s := fun {y c} hc i hi => by
    obtain ⟨ha, rfl⟩ := Array.getElem?_eq_some_iff.mp hc
    have q := List.all_eq_true.mp ((Array.all_eq_true_iff_forall_mem.mp hF) _ (Array.getElem_mem ha)) i (List.mem_range.mpr hi)
    simpa [Array.getElem?_eq_getElem hi] using q
  obtain ⟨i0, ei0⟩ := is_v g3
  obtain rfl : w0 = (.int i0) := Option.some.inj ei0
  obtain ⟨i1, ei1⟩ := is_v g5
  obtain rfl : w1 = (.int i1) := Option.some.inj ei1
  obtain ⟨i2, ei2⟩ := is_v g7
  obtain rfl : w2 = (.int i2) := Option.some.inj ei2
  obtain ⟨i3, ei3⟩ := is_v g9
  obtain rfl : w3 = (.int i3) := Option.some.inj ei3
  obtain ⟨i4, ei4⟩ := is_v g11
  obtain rfl : w4 = (.int i4) := Option.some.inj ei4
  obtain ⟨i5, ei5⟩ := is_v g12
  obtain rfl : w5 = (.int i5) := Option.some.inj ei5
  obtain ⟨n, o, h1, h2, h3, _, L, rfl, ⟨rfl, N⟩, hq⟩ := rm0 l s _ hw s.heap.size i0 i1 i2 i3 i4 i5 s.heap (Nat.le_refl _)  tables_1 p e ha hc hk s m _ below hf ((Spec.applies_iff_loose hf).mp happ).1 ⟨rfl, State.Warmed39.refl s, rfl⟩ trivial
  refine ⟨n, _, h1, h2, h3, hpost _ _ _ _ _ _ ⟨Cond.after_iff.mpr rfl, Cond.after_iff.mpr (eq_i res_at (Term.int_eval (1)) rfl), trivial⟩ ⟨hq.1, hq.2.1, (hq.2.2.sift fun y hy => Or.inr (N y hy)).mono (by decide) (by decide)⟩⟩
theorem main_1_1 : Claimed_1_1 := comes_1 fun _ _ _ _ _ _ h hF => ⟨h.1, hF⟩
theorem main_1_2 : Claimed_1_2 := comes_1 fun _ _ _ _ _ _ h hF => ⟨h.2.1, hF⟩
end Jvm.Pilot.@@N@@
namespace Jvm.Pilot.@@N@@
open Jvm Jvm.ClassFile Sem Op Lib Jvm.Free Jvm.Stand Jvm.Pilot.@@N@@.Jvm.D
/-! MADE BY PROGRAM (witnessworld.py) out of the Statement's table words and the real class files: 9 classes; the members and pool entries that the words name. The judged class is class 1, her method 3. -/
namespace start1
open Jvm.ClassFile
def u (s : String) : CpInfo := .utf8 (stringToUtf16 s)
/-- a pool by its gaps: so many unusable entries, then the entry; so many at the end -/
def gap : Nat → List CpInfo → List CpInfo
  | 0, r => r
  | n + 1, r => .unusable :: gap n r
def poolList (es : List (Nat × CpInfo)) (last : Nat) : List CpInfo := es.foldr (fun e r => gap e.1 (e.2 :: r)) (gap last [])
def pool (es : List (Nat × CpInfo)) (last : Nat) : Array CpInfo := ⟨poolList es last⟩
def fileOf (pool : Array CpInfo) (this : Nat) (attrs : Array Attribute := #[]) (ms : Array MethodInfo := #[]) (fl : Nat := 33) (sup : Nat := 0) (ifs : Array Nat := #[]) (fds : Array FieldInfo := #[]) : ClassFile where
  minorVersion := 0
  majorVersion := 65
  constantPool := pool
  accessFlags := fl
  thisClass := this
  superClass := sup
  interfaces := ifs
  fields := fds
  methods := ms
  attributes := attrs
def plain (name : String) (sup : Option ClassId) : Class where
  name := name
  kind := .ordinary
  loader := none
  accessFlags := 33
  super := sup
  interfaces := #[]
  cf := none
  fields := #[]
  methods := #[]
  instanceTypes := #[]
  staticTypes := #[]
  resolved := #[]
  callSites := []
  init := .initialized
  statics := none
  mirror := none

def pool0 : Array CpInfo := pool [(5, u "<init>"), (0, u "()V"), (1, .class_ 10), (1, u "java/lang/Object")] 113

def k0m0 : Method := { name := "<init>", desc := "()V", sig := { parameters := [], returnType := none }, accessFlags := 1, code := none }
/-- java/lang/Object -/
def k0 : Class := { plain "java/lang/Object" none with
  accessFlags := 33
  interfaces := #[]
  cf := some (fileOf pool0 8 #[] #[{ accessFlags := 1, nameIndex := 5, descriptorIndex := 6, attributes := #[] }] 33 0 #[] #[])
  fields := #[]
  methods := #[k0m0]
  instanceTypes := #[]
  staticTypes := #[]
  resolved := Array.replicate 124 none
  statics := none }

def pool1 : Array CpInfo := pool [(2, .class_ 4), (1, u "java/lang/Object"), (0, u "<init>"), (0, u "()V"), (0, .methodref 8 9), (0, .class_ 10), (0, .nameAndType 11 12), (0, u "com/example/dhole/dhole/read/Utf8SequenceLengthPinLaw"), (0, u "cont"), (0, u "(I)Z"), (0, .integer 55296), (0, .integer 57343), (0, .integer 65536), (0, .integer 1114111), (0, .integer 2147483647), (0, .methodref 19 20), (0, .class_ 21), (0, .nameAndType 22 23), (0, u "com/example/dhole/dhole/read/Utf8"), (0, u "sequenceLength"), (0, u "([BII)I"), (0, .methodref 8 25), (0, .nameAndType 26 27), (0, u "expected"), (0, u "(IIIII)I"), (3, u "law"), (0, u "(IIIIII)Z")] 4

def k1m0 : Method := { name := "<init>", desc := "()V", sig := { parameters := [], returnType := none }, accessFlags := 1, code := none }
def k1c1 : Code := { maxStack := 2, maxLocals := 1, code := method_2_code, exceptionTable := #[], attributes := #[] }
def k1m1 : Method := { name := "cont", desc := "(I)Z", sig := { parameters := [.int], returnType := some .boolean }, accessFlags := 10, code := some k1c1 }
def k1c2 : Code := { maxStack := 3, maxLocals := 7, code := method_3_code, exceptionTable := #[], attributes := #[] }
def k1m2 : Method := { name := "expected", desc := "(IIIII)I", sig := { parameters := [.int, .int, .int, .int, .int], returnType := some .int }, accessFlags := 10, code := some k1c2 }
def k1c3 : Code := { maxStack := 7, maxLocals := 15, code := code, exceptionTable := #[], attributes := #[] }
def k1m3 : Method := { name := "law", desc := "(IIIIII)Z", sig := { parameters := [.int, .int, .int, .int, .int, .int], returnType := some .boolean }, accessFlags := 9, code := some k1c3 }
/-- com/example/dhole/dhole/read/Utf8SequenceLengthPinLaw -/
def k1 : Class := { plain "com/example/dhole/dhole/read/Utf8SequenceLengthPinLaw" (some 0) with
  accessFlags := 49
  interfaces := #[]
  cf := some (fileOf pool1 8 #[] #[{ accessFlags := 1, nameIndex := 5, descriptorIndex := 6, attributes := #[] }, { accessFlags := 10, nameIndex := 11, descriptorIndex := 12, attributes := #[] }, { accessFlags := 10, nameIndex := 26, descriptorIndex := 27, attributes := #[] }, { accessFlags := 9, nameIndex := 31, descriptorIndex := 32, attributes := #[] }] 49 2 #[] #[])
  fields := #[]
  methods := #[k1m0, k1m1, k1m2, k1m3]
  instanceTypes := #[]
  staticTypes := #[]
  resolved := Array.replicate 37 none
  statics := none }

def pool2 : Array CpInfo := pool [(2, .class_ 4), (1, u "java/lang/Object"), (0, u "<init>"), (0, u "()V"), (3, .class_ 12), (1, u "com/example/dhole/dhole/read/Utf8"), (0, u "WORDS"), (0, u "Ljava/lang/invoke/VarHandle;"), (10, u "sequenceLength"), (0, u "([BII)I"), (0, .methodref 10 28), (0, .nameAndType 29 30), (0, u "within"), (0, u "(BII)Z"), (14, u "HIGH_BITS"), (0, u "J")] 11

def k2m0 : Method := { name := "<init>", desc := "()V", sig := { parameters := [], returnType := none }, accessFlags := 2, code := none }
def k2c1 : Code := { maxStack := 3, maxLocals := 8, code := prog_19_method_3_code, exceptionTable := #[], attributes := #[] }
def k2m1 : Method := { name := "sequenceLength", desc := "([BII)I", sig := { parameters := [(.array .byte), .int, .int], returnType := some .int }, accessFlags := 8, code := some k2c1 }
def k2c2 : Code := { maxStack := 2, maxLocals := 4, code := prog_19_method_4_code, exceptionTable := #[], attributes := #[] }
def k2m2 : Method := { name := "within", desc := "(BII)Z", sig := { parameters := [.byte, .int, .int], returnType := some .boolean }, accessFlags := 10, code := some k2c2 }
/-- com/example/dhole/dhole/read/Utf8 -/
def k2 : Class := { plain "com/example/dhole/dhole/read/Utf8" (some 0) with
  accessFlags := 48
  interfaces := #[]
  cf := some (fileOf pool2 10 #[] #[{ accessFlags := 2, nameIndex := 5, descriptorIndex := 6, attributes := #[] }, { accessFlags := 8, nameIndex := 25, descriptorIndex := 26, attributes := #[] }, { accessFlags := 10, nameIndex := 29, descriptorIndex := 30, attributes := #[] }] 48 2 #[] #[{ accessFlags := 26, nameIndex := 13, descriptorIndex := 14, attributes := #[] }, { accessFlags := 26, nameIndex := 45, descriptorIndex := 46, attributes := #[] }])
  fields := #[{ name := "WORDS", type := (.object "java/lang/invoke/VarHandle"), accessFlags := 26, slot := 0, constantValue := 0 }, { name := "HIGH_BITS", type := .long, accessFlags := 26, slot := 1, constantValue := 0 }]
  methods := #[k2m0, k2m1, k2m2]
  instanceTypes := #[]
  staticTypes := #[(.object "java/lang/invoke/VarHandle"), .long]
  resolved := Array.replicate 58 none
  statics := none }

def pool3 : Array CpInfo := pool [(1, u "java/lang/Cloneable"), (0, .class_ 1), (0, u "java/lang/Object"), (0, .class_ 3)] 3

/-- java/lang/Cloneable -/
def k3 : Class := { plain "java/lang/Cloneable" (some 0) with
  accessFlags := 1537
  interfaces := #[]
  cf := some (fileOf pool3 2 #[] #[] 1537 4 #[] #[])
  fields := #[]
  methods := #[]
  instanceTypes := #[]
  staticTypes := #[]
  resolved := Array.replicate 8 none
  statics := none }

def pool4 : Array CpInfo := pool [(1, u "java/io/Serializable"), (0, .class_ 1), (0, u "java/lang/Object"), (0, .class_ 3)] 3

/-- java/io/Serializable -/
def k4 : Class := { plain "java/io/Serializable" (some 0) with
  accessFlags := 1537
  interfaces := #[]
  cf := some (fileOf pool4 2 #[] #[] 1537 4 #[] #[])
  fields := #[]
  methods := #[]
  instanceTypes := #[]
  staticTypes := #[]
  resolved := Array.replicate 8 none
  statics := none }

/-- the primitive byte -/
def k5 : Class := { plain "byte" none with kind := .primitive 'B', accessFlags := 0x411 }
/-- [B -/
def k6 : Class := { plain "[B" (some 0) with kind := .array 5 .byte, interfaces := #[3, 4], accessFlags := 1041 }

/-- the primitive int -/
def k7 : Class := { plain "int" none with kind := .primitive 'I', accessFlags := 0x411 }
/-- [I -/
def k8 : Class := { plain "[I" (some 0) with kind := .array 7 .int, interfaces := #[3, 4], accessFlags := 1041 }

def heap : Heap := #[]
def classes : Array Class := #[k0, k1, k2, k3, k4, k5, k6, k7, k8]
def interned : List (Array UInt16 × Addr) := []
def slotsUsed : Nat := 0
def theMethod : MethodId := ⟨1, 3⟩
def args0 : Array Value := #[.int 5, .int 3, .int 5, .int 3, .int 5, .int 3]
def aboutOver (below : List Frame) : State where
  vm := { classes := classes, interned := interned.toArray }
  heap := heap
  slotsUsed := slotsUsed
  threads := #[{ frames := .invoking theMethod args0 :: below }]
def below0 : List Frame := [.native { method := ⟨0, 0⟩, args := #[] }]
def about1 : State := aboutOver below0
def p0 : Program := .bare "" "" ""
def e0 : Env := launch0.env 0 0 0
theorem w_frames : about1.frames = Frame.invoking theMethod args0 :: below0 := rfl
set_option maxRecDepth 65536 in
theorem w_args : argsFit about1.vm theMethod args0 = true := by decide +kernel
set_option maxRecDepth 65536 in
theorem w_heap : heapFits about1 = true := by decide +kernel
set_option maxRecDepth 65536 in
theorem w_runnable : about1.curStatus? = some .runnable := by decide +kernel
set_option maxRecDepth 65536 in
theorem w_alone : about1.alone = true := by decide +kernel
set_option maxRecDepth 65536 in
theorem w_named : about1.methodNamed? x = some theMethod := by decide +kernel
set_option maxRecDepth 65536 in
theorem w_hears : about1.hears theMethod below0 = true := by decide +kernel
set_option maxRecDepth 65536 in
theorem w_ripe : about1.ripe theMethod args0 below0 = true := by decide +kernel
theorem w_running : about1.status = .running := rfl
set_option maxRecDepth 65536 in
theorem w_room : about1.hasRoom e0.platform room_1 = true :=
  launch0.hasRoom_least _ room_1 (by decide +kernel) (by decide +kernel) (by decide +kernel) (by decide +kernel) (by decide +kernel) (by decide +kernel)
theorem allAtoms_all (ts : List Jvm.Cond) (a : Array Jvm.Value) (st : Jvm.State) : (allAtoms ts).before a st = ts.all (fun c => c.before a st) := by
  induction ts with
  | nil => rfl
  | cons c t ih =>
    show (Jvm.Cond.and c (allAtoms t)).before a st = _
    rw [Jvm.Cond.before_and, ih, List.all_cons]
def words1 : List Jvm.Cond := Jvm.Cond.code x code maxLocals ret :: tables_1
/-- a 'code' word, met by the world's own term for the bytes: nothing is compared byte by byte -/
theorem code_word {y : MethodName} {bytes : ByteArray} {mx : Nat} {rt : Option FieldType} {a : Array Value} {s : State} {m : MethodId} {meth : Method} {c : Code} (h1 : s.methodNamed? y = some m) (h2 : s.vm.method? m = some meth) (h3 : meth.code = some c) (h4 : c.code = bytes)
    (h5 : (c.maxLocals == mx && c.exceptionTable.isEmpty && decide (c.maxStack ≤ mostOperands) && decide (meth.sig.returnType = rt) && !meth.locks && decide (parseMethodDescriptor y.desc = some meth.sig)) = true) : (Jvm.Cond.code y bytes mx rt).before a s = true := by
  simp only [Bool.and_eq_true, beq_iff_eq, Bool.not_eq_true', decide_eq_true_eq] at h5
  obtain ⟨⟨⟨⟨⟨g1, g2⟩, g3⟩, g4⟩, g5⟩, g6⟩ := h5
  simp [Cond.before, Cond.holds, Cond.value, h1, h2, h3, h4, g1, g2, g3, g4, g5, g6]
def isCode : Jvm.Cond → Bool
  | .code _ _ _ _ => true
  | _ => false
theorem all_split {L : List Jvm.Cond} {P : Jvm.Cond → Bool} (h1 : L.all (fun c => isCode c || P c) = true) (h2 : ∀ c ∈ L.filter isCode, P c = true) : L.all P = true := by
  refine List.all_eq_true.mpr fun c hc => ?_
  have h := List.all_eq_true.mp h1 c hc
  rcases Bool.eq_false_or_eq_true (isCode c) with hi | hi
  · exact h2 c (List.mem_filter.mpr ⟨hc, hi⟩)
  · simpa [hi] using h
set_option maxRecDepth 65536 in
theorem w_c0 : (Jvm.Cond.code x code maxLocals ret).before args0 about1 = true := code_word (m := ⟨1, 3⟩) (meth := k1m3) (c := k1c3) (by decide +kernel) rfl rfl rfl (by decide +kernel)
set_option maxRecDepth 65536 in
theorem w_c1 : (Jvm.Cond.code ({ cls := "com/example/dhole/dhole/read/Utf8", name := "sequenceLength", desc := "([BII)I" } : Jvm.MethodName) prog_19_method_3_code (8 : Nat) (Option.some Jvm.ClassFile.FieldType.int)).before args0 about1 = true := code_word (m := ⟨2, 1⟩) (meth := k2m1) (c := k2c1) (by decide +kernel) rfl rfl rfl (by decide +kernel)
set_option maxRecDepth 65536 in
theorem w_c2 : (Jvm.Cond.code ({ cls := "com/example/dhole/dhole/read/Utf8SequenceLengthPinLaw", name := "expected", desc := "(IIIII)I" } : Jvm.MethodName) method_3_code (7 : Nat) (Option.some Jvm.ClassFile.FieldType.int)).before args0 about1 = true := code_word (m := ⟨1, 2⟩) (meth := k1m2) (c := k1c2) (by decide +kernel) rfl rfl rfl (by decide +kernel)
set_option maxRecDepth 65536 in
theorem w_c3 : (Jvm.Cond.code ({ cls := "com/example/dhole/dhole/read/Utf8", name := "within", desc := "(BII)Z" } : Jvm.MethodName) prog_19_method_4_code (4 : Nat) (Option.some Jvm.ClassFile.FieldType.boolean)).before args0 about1 = true := code_word (m := ⟨2, 2⟩) (meth := k2m2) (c := k2c2) (by decide +kernel) rfl rfl rfl (by decide +kernel)
set_option maxRecDepth 65536 in
theorem w_c4 : (Jvm.Cond.code ({ cls := "com/example/dhole/dhole/read/Utf8SequenceLengthPinLaw", name := "cont", desc := "(I)Z" } : Jvm.MethodName) method_2_code (1 : Nat) (Option.some Jvm.ClassFile.FieldType.boolean)).before args0 about1 = true := code_word (m := ⟨1, 1⟩) (meth := k1m1) (c := k1c1) (by decide +kernel) rfl rfl rfl (by decide +kernel)
def codes1 : List Jvm.Cond := [Jvm.Cond.code x code maxLocals ret, Jvm.Cond.code ({ cls := "com/example/dhole/dhole/read/Utf8", name := "sequenceLength", desc := "([BII)I" } : Jvm.MethodName) prog_19_method_3_code (8 : Nat) (Option.some Jvm.ClassFile.FieldType.int), Jvm.Cond.code ({ cls := "com/example/dhole/dhole/read/Utf8SequenceLengthPinLaw", name := "expected", desc := "(IIIII)I" } : Jvm.MethodName) method_3_code (7 : Nat) (Option.some Jvm.ClassFile.FieldType.int), Jvm.Cond.code ({ cls := "com/example/dhole/dhole/read/Utf8", name := "within", desc := "(BII)Z" } : Jvm.MethodName) prog_19_method_4_code (4 : Nat) (Option.some Jvm.ClassFile.FieldType.boolean), Jvm.Cond.code ({ cls := "com/example/dhole/dhole/read/Utf8SequenceLengthPinLaw", name := "cont", desc := "(I)Z" } : Jvm.MethodName) method_2_code (1 : Nat) (Option.some Jvm.ClassFile.FieldType.boolean)]
set_option maxRecDepth 65536 in
theorem codes_eq : words1.filter isCode = codes1 := rfl
theorem w_codes : ∀ c ∈ words1.filter isCode, c.before args0 about1 = true := by
  rw [codes_eq]
  intro c hc
  simp only [codes1, List.mem_cons, List.not_mem_nil, or_false] at hc
  rcases hc with rfl | rfl | rfl | rfl | rfl
  · exact w_c0
  · exact w_c1
  · exact w_c2
  · exact w_c3
  · exact w_c4
set_option maxRecDepth 65536 in
theorem w_t1 : words1.all (fun c => isCode c || c.before args0 about1) = true := by decide +kernel
theorem w_tables : (allAtoms (Jvm.Cond.code x code maxLocals ret :: tables_1)).before args0 about1 = true := by
  rw [allAtoms_all]
  show words1.all (fun c => c.before args0 about1) = true
  refine all_split ?_ w_codes
  rw [w_t1]
set_option maxRecDepth 65536 in
theorem w_case : (Jvm.Cond.and given_1 narrow_1).before args0 about1 = true := by decide +kernel
theorem w_applies : (headSpec (Jvm.Cond.code x code maxLocals ret :: tables_1) room_1).applies x e0.platform about1 = true :=
  (Spec.applies_iff w_frames).mpr ⟨w_running, w_runnable, w_alone, w_named, w_hears, w_ripe, w_room, w_tables⟩
theorem atStart : AtStart classFile x code maxLocals ret World_1 tables_1 room_1 Calls_1 rest_1 Pre_1 launch0 p0 e0 about1 theMethod args0 below0 :=
  ⟨lists_1, trivial, launch0.admits_env _ _ _, launch0.least_env, fairChoices_fair.cas, fairChoices_fair.clock, w_frames, w_args, w_heap, w_applies, trivial, trivial, w_case⟩
end start1
theorem witness_1 : WitnessClaimed_1 := ⟨start1.p0, start1.e0, start1.about1, start1.theMethod, start1.args0, start1.below0, start1.atStart⟩
end Jvm.Pilot.@@N@@
