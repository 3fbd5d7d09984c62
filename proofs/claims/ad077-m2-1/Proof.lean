import JvmDerived
import JvmDerived.Pilot.@@N@@Statement
import JvmDerived.Pilot.@@N@@Code
set_option linter.unusedVariables false
set_option linter.unusedSimpArgs false
namespace Jvm.RoadKit
open Sem ClassFile Op Lib Jvm.Stand Jvm.Free Jvm.LawKit
section New
variable {p : Program} {l : Launch} {e : Env} {R : Room} {s : State} {m : MethodId} {args : Array Value} {below : List Frame} {meth : Method} {c : Code} {T : State} {locs : List Loc} {cells slots : Nat}
theorem retI (X : Stand p l e R s m args below meth c T locs cells slots) (hx : p.tables.exec = Jvm.exec) {pc : Nat} {Ls : Array Slot} {z : Int32} {rest : List Value} (hret : meth.sig.returnType = some .int) (hd : decode c.code pc = .ok (.ireturn, 1)) {fs : List Frame}
    (hl : ∀ (f : JFrame) (acts : List Action), f.method = m → f.locked = none → f.entered = [] → (doReturn e (T.setTop f) acts (some (.int z))).1 = T.setFrames fs) : Steps p.tables e below (T.setTop (mkF m pc Ls (.int z :: rest))) (T.setFrames fs) := by
  have hm' : T.vm.method? m = some meth := X.method'
  have hn : narrow .int (.int z) = .int z := rfl
  show Steps p.tables e below (T.setTop { method := m, pc := pc, locals := Ls, stack := _ :: rest, locked := none }) _
  jvm_step X.here [X.here.top, hx, hd, hm', hret, hn]
  first | (intro acts; rw [hl _ acts rfl rfl rfl]) | rw [hl _ _ rfl rfl rfl]
  exact Steps.refl _
end New
end Jvm.RoadKit
namespace Jvm.Pilot.@@N@@
open Jvm Jvm.ClassFile Sem Op Lib Jvm.Free Jvm.Stand Jvm.LawKit Jvm.RoadKit Bundle Jvm.Pilot.@@N@@.Jvm.D
section Own
variable {p : Program} {l : Launch} {e : Env} {R : Room} {s : State} {m : MethodId} {args : Array Value} {below : List Frame} {meth : Method} {c : Code} {T : State} {locs : List Loc} {cells slots : Nat} {Z : State} {a0 : Array Value} {h h' : Heap} {n0 : Nat} {Q : Option Value → Heap → Prop} {kc ks : Nat} {Ls : Array Slot} {St : List Value} {pc : Nat} {own nm : String} {bytes : ByteArray} {maxL : Nat} {ret : Option FieldType}
/-- the rest of a run: from S the method ends by returning; Q says what it returns and leaves; nothing below n0 is written -/
def OGo (p : Program) (e : Env) (below : List Frame) (s : State) (n0 : Nat) (Q : Option Value → Heap → Prop) (kc ks : Nat) (S : State) : Prop :=
  ∃ U o, Steps p.tables e below S U ∧ U.status = .running ∧ Ended U below o ∧ ∃ v L, o = .returned v ∧ (Q v U.heap ∧ Fr n0 L) ∧ FrameEnd s o U L kc ks
theorem OGo.st {A B : State} (k : ∀ t, Steps p.tables e below A t → Steps p.tables e below B t) (g : OGo p e below s n0 Q kc ks A) : OGo p e below s n0 Q kc ks B := by
  obtain ⟨U, o, h1, r⟩ := g
  exact ⟨U, o, k U h1, r⟩
theorem OGo.imp {A : State} {Q' : Option Value → Heap → Prop} (k : ∀ v h, Q' v h → Q v h) (g : OGo p e below s n0 Q' kc ks A) : OGo p e below s n0 Q kc ks A := by
  obtain ⟨U, o, h1, h2, h3, v, L, h4, ⟨h5, h6⟩, h7⟩ := g
  exact ⟨U, o, h1, h2, h3, v, L, h4, ⟨k _ _ h5, h6⟩, h7⟩
/-- what a walk knows of the method in which it stands -/
def OCx (p : Program) (s : State) (m : MethodId) (meth : Method) (c : Code) (Z : State) (own nm : String) (bytes : ByteArray) (maxL : Nat) (ret : Option FieldType) : Prop :=
  p.tables.exec = Jvm.exec ∧ Z.Warmed39 s.vm ∧ c.code = bytes ∧ c.maxLocals = maxL ∧ s.vm.findClass own = some m.cls ∧ meth.name = nm ∧ meth.sig.returnType = ret ∧ meth.locks = false
theorem OCx.hx (K : OCx p s m meth c Z own nm bytes maxL ret) : p.tables.exec = Jvm.exec := K.1
theorem OCx.hZ (K : OCx p s m meth c Z own nm bytes maxL ret) : Z.Warmed39 s.vm := K.2.1
theorem OCx.hby (K : OCx p s m meth c Z own nm bytes maxL ret) : c.code = bytes := K.2.2.1
theorem OCx.hml (K : OCx p s m meth c Z own nm bytes maxL ret) : c.maxLocals = maxL := K.2.2.2.1
theorem OCx.hown (K : OCx p s m meth c Z own nm bytes maxL ret) : s.vm.findClass own = some m.cls := K.2.2.2.2.1
theorem OCx.hnm (K : OCx p s m meth c Z own nm bytes maxL ret) : meth.name = nm := K.2.2.2.2.2.1
theorem OCx.hret (K : OCx p s m meth c Z own nm bytes maxL ret) : meth.sig.returnType = ret := K.2.2.2.2.2.2.1
theorem OCx.hlk (K : OCx p s m meth c Z own nm bytes maxL ret) : meth.locks = false := K.2.2.2.2.2.2.2
/-- a body's contract: called with these arguments at this heap it returns, and Q -/
def OCon (l : Launch) (Z : State) (n0 : Nat) (y : MethodName) (bytes : ByteArray) (maxL : Nat) (ret : Option FieldType) (rm : Room) (as : Array Value) (h0 : Heap) (Q : Option Value → Heap → Prop) : Prop :=
  ∀ ws, MetFree l y (head1 (Jvm.Cond.code y bytes maxL ret :: ws) rm) (fun a U => a = as ∧ Z.Warmed39 U.vm ∧ U.heap = h0) (fun _ _ _ _ _ => True) (fun _ U o U' => ∃ v L, o = .returned v ∧ (Q v U'.heap ∧ Fr n0 L) ∧ FrameEnd U o U' L rm.cells rm.slots)
theorem OCon.of {y : MethodName} {rm : Room} {as : Array Value} {h0 : Heap} {Ls : Array Slot} (hpl : plainFor y = true) (ho : y.cls = own) (hn : y.name = nm) (hen : ∀ m, entryFrame m as maxL = mkF m 0 Ls [])
    (H : ∀ (p : Program) (e : Env) (s : State) (m : MethodId) (below : List Frame) (meth : Method) (c : Code) (T : State), Stand p l e rm s m as below meth c T [] 0 0 → OCx p s m meth c Z own nm bytes maxL ret → T.heap = h0 → OGo p e below s n0 Q rm.cells rm.slots (T.setTop (mkF m 0 Ls []))) : OCon l Z n0 y bytes maxL ret rm as h0 Q := by
  intro ws
  refine MetFree.of_bodySF hpl hisR ?_
  intro p e s m args below meth c s₁ Bd hml0 hP hK
  obtain ⟨rfl, hZ, hh⟩ := hP
  subst ho hn
  obtain ⟨U, o, h1, r⟩ := H p e s m below meth c s₁ (Stand.of_body Bd) ⟨Bd.exec, hZ, Bd.bytes, hml0, findClass_of_methodNamed Bd.named, (name_of_methodNamed Bd.named Bd.method).1, Bd.returns, Bd.notSynchronized⟩ (by rw [← hh, Bd.state]; rfl)
  exact ⟨U, o, castTop (hen m) h1, r⟩
theorem OCon.imp {y : MethodName} {rm : Room} {as : Array Value} {h0 : Heap} {Q' : Option Value → Heap → Prop} (g : OCon l Z n0 y bytes maxL ret rm as h0 Q) (k : ∀ v h, Q v h → Q' v h) : OCon l Z n0 y bytes maxL ret rm as h0 Q' := by
  intro ws p e ha hc hk s m args below hf happ hP hK
  obtain ⟨n, o, h1, h2, h3, v, L, h4, ⟨h5, h6⟩, h7⟩ := g ws p e ha hc hk s m args below hf happ hP hK
  exact ⟨n, o, h1, h2, h3, v, L, h4, ⟨k _ _ h5, h6⟩, h7⟩

theorem o_iload (X : Stand p l e R s m args below meth c T locs cells slots) (K : OCx p s m meth c Z own nm bytes maxL ret) {k : Nat} {v : Int32} (hd : decode bytes pc = .ok (.iload k, 2)) (pc' : Nat) (hp : pc + 2 = pc') (hl : Ls[k]? = some (.val (.int v))) (hr : OGo p e below s n0 Q kc ks (T.setTop (mkF m pc' Ls (.int v :: St)))) : OGo p e below s n0 Q kc ks (T.setTop (mkF m pc Ls St)) := by
  subst hp
  exact OGo.st (fun _ k => XS.iload X.here K.hx rfl (hb K.hby hd) hl k) hr
theorem o_iloadN (X : Stand p l e R s m args below meth c T locs cells slots) (K : OCx p s m meth c Z own nm bytes maxL ret) {k : Fin 4} {v : Int32} (hd : decode bytes pc = .ok (.iload_n k, 1)) (pc' : Nat) (hp : pc + 1 = pc') (hl : Ls[k.val]? = some (.val (.int v))) (hr : OGo p e below s n0 Q kc ks (T.setTop (mkF m pc' Ls (.int v :: St)))) : OGo p e below s n0 Q kc ks (T.setTop (mkF m pc Ls St)) := by
  subst hp
  exact OGo.st (fun _ k => XS.iloadN X.here K.hx rfl (hb K.hby hd) hl k) hr
theorem o_lload (X : Stand p l e R s m args below meth c T locs cells slots) (K : OCx p s m meth c Z own nm bytes maxL ret) {k : Nat} {v : Int64} (hd : decode bytes pc = .ok (.lload k, 2)) (pc' : Nat) (hp : pc + 2 = pc') (hl : Ls[k]? = some (.val (.long v))) (hr : OGo p e below s n0 Q kc ks (T.setTop (mkF m pc' Ls (.long v :: St)))) : OGo p e below s n0 Q kc ks (T.setTop (mkF m pc Ls St)) := by
  subst hp
  exact OGo.st (fun _ k => XS.lload X.here K.hx rfl (hb K.hby hd) hl k) hr
theorem o_lloadN (X : Stand p l e R s m args below meth c T locs cells slots) (K : OCx p s m meth c Z own nm bytes maxL ret) {k : Fin 4} {v : Int64} (hd : decode bytes pc = .ok (.lload_n k, 1)) (pc' : Nat) (hp : pc + 1 = pc') (hl : Ls[k.val]? = some (.val (.long v))) (hr : OGo p e below s n0 Q kc ks (T.setTop (mkF m pc' Ls (.long v :: St)))) : OGo p e below s n0 Q kc ks (T.setTop (mkF m pc Ls St)) := by
  subst hp
  exact OGo.st (fun _ k => XS.lloadN X.here K.hx rfl (hb K.hby hd) hl k) hr
theorem o_aload (X : Stand p l e R s m args below meth c T locs cells slots) (K : OCx p s m meth c Z own nm bytes maxL ret) {k : Nat} {v : Value} (hd : decode bytes pc = .ok (.aload k, 2)) (pc' : Nat) (hp : pc + 2 = pc') (hl : Ls[k]? = some (.val v)) (hv : v.isRef = true) (hr : OGo p e below s n0 Q kc ks (T.setTop (mkF m pc' Ls (v :: St)))) : OGo p e below s n0 Q kc ks (T.setTop (mkF m pc Ls St)) := by
  subst hp
  exact OGo.st (fun _ k => XS.aload X.here K.hx rfl (hb K.hby hd) hl hv k) hr
theorem o_aloadN (X : Stand p l e R s m args below meth c T locs cells slots) (K : OCx p s m meth c Z own nm bytes maxL ret) {k : Fin 4} {v : Value} (hd : decode bytes pc = .ok (.aload_n k, 1)) (pc' : Nat) (hp : pc + 1 = pc') (hl : Ls[k.val]? = some (.val v)) (hv : v.isRef = true) (hr : OGo p e below s n0 Q kc ks (T.setTop (mkF m pc' Ls (v :: St)))) : OGo p e below s n0 Q kc ks (T.setTop (mkF m pc Ls St)) := by
  subst hp
  exact OGo.st (fun _ k => XS.aloadN X.here K.hx rfl (hb K.hby hd) hl hv k) hr
theorem o_istore (X : Stand p l e R s m args below meth c T locs cells slots) (K : OCx p s m meth c Z own nm bytes maxL ret) {k : Nat} {x x' : Int32} (hd : decode bytes pc = .ok (.istore k, 2)) (pc' : Nat) (hp : pc + 2 = pc') (Ls' : Array Slot) (hv : x = x') (hl : storeLocals Ls k (.int x') = some Ls') (hr : OGo p e below s n0 Q kc ks (T.setTop (mkF m pc' Ls' St))) : OGo p e below s n0 Q kc ks (T.setTop (mkF m pc Ls (.int x :: St))) := by
  subst hp
  exact OGo.st (fun _ k => XS.istore X.here K.hx rfl (hb K.hby hd) rfl (hv ▸ hl) k) hr
theorem o_istoreN (X : Stand p l e R s m args below meth c T locs cells slots) (K : OCx p s m meth c Z own nm bytes maxL ret) {k : Fin 4} {x x' : Int32} (hd : decode bytes pc = .ok (.istore_n k, 1)) (pc' : Nat) (hp : pc + 1 = pc') (Ls' : Array Slot) (hv : x = x') (hl : storeLocals Ls k.val (.int x') = some Ls') (hr : OGo p e below s n0 Q kc ks (T.setTop (mkF m pc' Ls' St))) : OGo p e below s n0 Q kc ks (T.setTop (mkF m pc Ls (.int x :: St))) := by
  subst hp
  exact OGo.st (fun _ k => XS.istoreN X.here K.hx rfl (hb K.hby hd) rfl (hv ▸ hl) k) hr
theorem o_lstore (X : Stand p l e R s m args below meth c T locs cells slots) (K : OCx p s m meth c Z own nm bytes maxL ret) {k : Nat} {x x' : Int64} (hd : decode bytes pc = .ok (.lstore k, 2)) (pc' : Nat) (hp : pc + 2 = pc') (Ls' : Array Slot) (hv : x = x') (hl : storeLocals Ls k (.long x') = some Ls') (hr : OGo p e below s n0 Q kc ks (T.setTop (mkF m pc' Ls' St))) : OGo p e below s n0 Q kc ks (T.setTop (mkF m pc Ls (.long x :: St))) := by
  subst hp
  exact OGo.st (fun _ k => XS.lstore X.here K.hx rfl (hb K.hby hd) rfl (hv ▸ hl) k) hr
theorem o_lstoreN (X : Stand p l e R s m args below meth c T locs cells slots) (K : OCx p s m meth c Z own nm bytes maxL ret) {k : Fin 4} {x x' : Int64} (hd : decode bytes pc = .ok (.lstore_n k, 1)) (pc' : Nat) (hp : pc + 1 = pc') (Ls' : Array Slot) (hv : x = x') (hl : storeLocals Ls k.val (.long x') = some Ls') (hr : OGo p e below s n0 Q kc ks (T.setTop (mkF m pc' Ls' St))) : OGo p e below s n0 Q kc ks (T.setTop (mkF m pc Ls (.long x :: St))) := by
  subst hp
  exact OGo.st (fun _ k => XS.lstoreN X.here K.hx rfl (hb K.hby hd) rfl (hv ▸ hl) k) hr
theorem o_astore (X : Stand p l e R s m args below meth c T locs cells slots) (K : OCx p s m meth c Z own nm bytes maxL ret) {k : Nat} {x : Value} (hd : decode bytes pc = .ok (.astore k, 2)) (pc' : Nat) (hp : pc + 2 = pc') (Ls' : Array Slot) (hv : x.isRef = true) (hl : storeLocals Ls k x = some Ls') (hr : OGo p e below s n0 Q kc ks (T.setTop (mkF m pc' Ls' St))) : OGo p e below s n0 Q kc ks (T.setTop (mkF m pc Ls (x :: St))) := by
  subst hp
  exact OGo.st (fun _ k => XS.astore X.here K.hx rfl (hb K.hby hd) rfl hv hl k) hr
theorem o_astoreN (X : Stand p l e R s m args below meth c T locs cells slots) (K : OCx p s m meth c Z own nm bytes maxL ret) {k : Fin 4} {x : Value} (hd : decode bytes pc = .ok (.astore_n k, 1)) (pc' : Nat) (hp : pc + 1 = pc') (Ls' : Array Slot) (hv : x.isRef = true) (hl : storeLocals Ls k.val x = some Ls') (hr : OGo p e below s n0 Q kc ks (T.setTop (mkF m pc' Ls' St))) : OGo p e below s n0 Q kc ks (T.setTop (mkF m pc Ls (x :: St))) := by
  subst hp
  exact OGo.st (fun _ k => XS.astoreN X.here K.hx rfl (hb K.hby hd) rfl hv hl k) hr
theorem o_iinc (X : Stand p l e R s m args below meth c T locs cells slots) (K : OCx p s m meth c Z own nm bytes maxL ret) {k : Nat} {cst : Int} {x x' : Int32} (hd : decode bytes pc = .ok (.iinc k cst, 3)) (pc' : Nat) (hp : pc + 3 = pc') (Ls' : Array Slot) (hl : Ls[k]? = some (.val (.int x))) (hv : x + Int32.ofInt cst = x') (hl' : storeLocals Ls k (.int x') = some Ls') (hr : OGo p e below s n0 Q kc ks (T.setTop (mkF m pc' Ls' St))) : OGo p e below s n0 Q kc ks (T.setTop (mkF m pc Ls St)) := by
  subst hp
  exact OGo.st (fun _ k => XS.iinc X.here K.hx rfl (hb K.hby hd) hl (hv ▸ hl') k) hr
theorem o_iconst (X : Stand p l e R s m args below meth c T locs cells slots) (K : OCx p s m meth c Z own nm bytes maxL ret) {i : Int} (v : Int32) (hd : decode bytes pc = .ok (.iconst i, 1)) (pc' : Nat) (hp : pc + 1 = pc') (hv : Int32.ofInt i = v) (hr : OGo p e below s n0 Q kc ks (T.setTop (mkF m pc' Ls (.int v :: St)))) : OGo p e below s n0 Q kc ks (T.setTop (mkF m pc Ls St)) := by
  subst hp
  exact OGo.st (fun _ k => XS.iconst X.here K.hx rfl (hb K.hby hd) (by rw [hv]; exact k)) hr
theorem o_bipush (X : Stand p l e R s m args below meth c T locs cells slots) (K : OCx p s m meth c Z own nm bytes maxL ret) {i : Int} (v : Int32) (hd : decode bytes pc = .ok (.bipush i, 2)) (pc' : Nat) (hp : pc + 2 = pc') (hv : (Int8.ofInt i).toInt32 = v) (hr : OGo p e below s n0 Q kc ks (T.setTop (mkF m pc' Ls (.int v :: St)))) : OGo p e below s n0 Q kc ks (T.setTop (mkF m pc Ls St)) := by
  subst hp
  exact OGo.st (fun _ k => XS.bipush X.here K.hx rfl (hb K.hby hd) (by rw [hv]; exact k)) hr
theorem o_sipush (X : Stand p l e R s m args below meth c T locs cells slots) (K : OCx p s m meth c Z own nm bytes maxL ret) {i : Int} (v : Int32) (hd : decode bytes pc = .ok (.sipush i, 3)) (pc' : Nat) (hp : pc + 3 = pc') (hv : (Int16.ofInt i).toInt32 = v) (hr : OGo p e below s n0 Q kc ks (T.setTop (mkF m pc' Ls (.int v :: St)))) : OGo p e below s n0 Q kc ks (T.setTop (mkF m pc Ls St)) := by
  subst hp
  exact OGo.st (fun _ k => XS.sipush X.here K.hx rfl (hb K.hby hd) (by rw [hv]; exact k)) hr
theorem o_lconst (X : Stand p l e R s m args below meth c T locs cells slots) (K : OCx p s m meth c Z own nm bytes maxL ret) {i : Fin 2} (v : Int64) (hd : decode bytes pc = .ok (.lconst i, 1)) (pc' : Nat) (hp : pc + 1 = pc') (hv : Int64.ofNat i = v) (hr : OGo p e below s n0 Q kc ks (T.setTop (mkF m pc' Ls (.long v :: St)))) : OGo p e below s n0 Q kc ks (T.setTop (mkF m pc Ls St)) := by
  subst hp
  exact OGo.st (fun _ k => XS.lconst X.here K.hx rfl (hb K.hby hd) (by rw [hv]; exact k)) hr
theorem o_aconst_null (X : Stand p l e R s m args below meth c T locs cells slots) (K : OCx p s m meth c Z own nm bytes maxL ret) (hd : decode bytes pc = .ok (.aconst_null, 1)) (pc' : Nat) (hp : pc + 1 = pc') (hr : OGo p e below s n0 Q kc ks (T.setTop (mkF m pc' Ls (.null :: St)))) : OGo p e below s n0 Q kc ks (T.setTop (mkF m pc Ls St)) := by
  subst hp
  exact OGo.st (fun _ k => XS.aconstNull X.here K.hx rfl (hb K.hby hd) k) hr
theorem o_ldcI (X : Stand p l e R s m args below meth c T locs cells slots) (K : OCx p s m meth c Z own nm bytes maxL ret) {index : Nat} {v : Int32} (hd : decode bytes pc = .ok (.ldc index, 2)) (pc' : Nat) (hp : pc + 2 = pc') (w : (Jvm.Cond.constant own index v).before a0 Z = true) (hr : OGo p e below s n0 Q kc ks (T.setTop (mkF m pc' Ls (.int v :: St)))) : OGo p e below s n0 Q kc ks (T.setTop (mkF m pc Ls St)) := by
  subst hp
  exact OGo.st (fun _ k => Stand.ldcI X K.hx K.hown (mvT K.hZ w) rfl (hb K.hby hd) k) hr
theorem o_ldcWI (X : Stand p l e R s m args below meth c T locs cells slots) (K : OCx p s m meth c Z own nm bytes maxL ret) {index : Nat} {v : Int32} (hd : decode bytes pc = .ok (.ldc_w index, 3)) (pc' : Nat) (hp : pc + 3 = pc') (w : (Jvm.Cond.constant own index v).before a0 Z = true) (hr : OGo p e below s n0 Q kc ks (T.setTop (mkF m pc' Ls (.int v :: St)))) : OGo p e below s n0 Q kc ks (T.setTop (mkF m pc Ls St)) := by
  subst hp
  exact OGo.st (fun _ k => Stand.ldcWI X K.hx K.hown (mvT K.hZ w) rfl (hb K.hby hd) k) hr
theorem o_ldc2J (X : Stand p l e R s m args below meth c T locs cells slots) (K : OCx p s m meth c Z own nm bytes maxL ret) {index : Nat} {v : Int64} (hd : decode bytes pc = .ok (.ldc2_w index, 3)) (pc' : Nat) (hp : pc + 3 = pc') (w : (Jvm.Cond.constantLong own index v).before a0 Z = true) (hr : OGo p e below s n0 Q kc ks (T.setTop (mkF m pc' Ls (.long v :: St)))) : OGo p e below s n0 Q kc ks (T.setTop (mkF m pc Ls St)) := by
  subst hp
  exact OGo.st (fun _ k => Stand.ldc2J X K.hx K.hown (mvT K.hZ w) rfl (hb K.hby hd) k) hr
theorem o_iadd (X : Stand p l e R s m args below meth c T locs cells slots) (K : OCx p s m meth c Z own nm bytes maxL ret) {x y : Int32} (hd : decode bytes pc = .ok (.iadd, 1)) (pc' : Nat) (hp : pc + 1 = pc') (hr : OGo p e below s n0 Q kc ks (T.setTop (mkF m pc' Ls (.int (x + y) :: St)))) : OGo p e below s n0 Q kc ks (T.setTop (mkF m pc Ls (.int y :: .int x :: St))) := by
  subst hp
  exact OGo.st (fun _ k => XS.iadd X.here K.hx rfl (hb K.hby hd) rfl k) hr
theorem o_isub (X : Stand p l e R s m args below meth c T locs cells slots) (K : OCx p s m meth c Z own nm bytes maxL ret) {x y : Int32} (hd : decode bytes pc = .ok (.isub, 1)) (pc' : Nat) (hp : pc + 1 = pc') (hr : OGo p e below s n0 Q kc ks (T.setTop (mkF m pc' Ls (.int (x - y) :: St)))) : OGo p e below s n0 Q kc ks (T.setTop (mkF m pc Ls (.int y :: .int x :: St))) := by
  subst hp
  exact OGo.st (fun _ k => XS.isub X.here K.hx rfl (hb K.hby hd) rfl k) hr
theorem o_imul (X : Stand p l e R s m args below meth c T locs cells slots) (K : OCx p s m meth c Z own nm bytes maxL ret) {x y : Int32} (hd : decode bytes pc = .ok (.imul, 1)) (pc' : Nat) (hp : pc + 1 = pc') (hr : OGo p e below s n0 Q kc ks (T.setTop (mkF m pc' Ls (.int (x * y) :: St)))) : OGo p e below s n0 Q kc ks (T.setTop (mkF m pc Ls (.int y :: .int x :: St))) := by
  subst hp
  exact OGo.st (fun _ k => XS.imul X.here K.hx rfl (hb K.hby hd) rfl k) hr
theorem o_iand (X : Stand p l e R s m args below meth c T locs cells slots) (K : OCx p s m meth c Z own nm bytes maxL ret) {x y : Int32} (hd : decode bytes pc = .ok (.iand, 1)) (pc' : Nat) (hp : pc + 1 = pc') (hr : OGo p e below s n0 Q kc ks (T.setTop (mkF m pc' Ls (.int (x &&& y) :: St)))) : OGo p e below s n0 Q kc ks (T.setTop (mkF m pc Ls (.int y :: .int x :: St))) := by
  subst hp
  exact OGo.st (fun _ k => XS.iand X.here K.hx rfl (hb K.hby hd) rfl k) hr
theorem o_ior (X : Stand p l e R s m args below meth c T locs cells slots) (K : OCx p s m meth c Z own nm bytes maxL ret) {x y : Int32} (hd : decode bytes pc = .ok (.ior, 1)) (pc' : Nat) (hp : pc + 1 = pc') (hr : OGo p e below s n0 Q kc ks (T.setTop (mkF m pc' Ls (.int (x ||| y) :: St)))) : OGo p e below s n0 Q kc ks (T.setTop (mkF m pc Ls (.int y :: .int x :: St))) := by
  subst hp
  exact OGo.st (fun _ k => XS.ior X.here K.hx rfl (hb K.hby hd) rfl k) hr
theorem o_ixor (X : Stand p l e R s m args below meth c T locs cells slots) (K : OCx p s m meth c Z own nm bytes maxL ret) {x y : Int32} (hd : decode bytes pc = .ok (.ixor, 1)) (pc' : Nat) (hp : pc + 1 = pc') (hr : OGo p e below s n0 Q kc ks (T.setTop (mkF m pc' Ls (.int (x ^^^ y) :: St)))) : OGo p e below s n0 Q kc ks (T.setTop (mkF m pc Ls (.int y :: .int x :: St))) := by
  subst hp
  exact OGo.st (fun _ k => XS.ixor X.here K.hx rfl (hb K.hby hd) rfl k) hr
theorem o_ishl (X : Stand p l e R s m args below meth c T locs cells slots) (K : OCx p s m meth c Z own nm bytes maxL ret) {x y : Int32} (hd : decode bytes pc = .ok (.ishl, 1)) (pc' : Nat) (hp : pc + 1 = pc') (hr : OGo p e below s n0 Q kc ks (T.setTop (mkF m pc' Ls (.int (x <<< (y &&& 31)) :: St)))) : OGo p e below s n0 Q kc ks (T.setTop (mkF m pc Ls (.int y :: .int x :: St))) := by
  subst hp
  exact OGo.st (fun _ k => XS.ishl X.here K.hx rfl (hb K.hby hd) rfl k) hr
theorem o_ishr (X : Stand p l e R s m args below meth c T locs cells slots) (K : OCx p s m meth c Z own nm bytes maxL ret) {x y : Int32} (hd : decode bytes pc = .ok (.ishr, 1)) (pc' : Nat) (hp : pc + 1 = pc') (hr : OGo p e below s n0 Q kc ks (T.setTop (mkF m pc' Ls (.int (x >>> (y &&& 31)) :: St)))) : OGo p e below s n0 Q kc ks (T.setTop (mkF m pc Ls (.int y :: .int x :: St))) := by
  subst hp
  exact OGo.st (fun _ k => XS.ishr X.here K.hx rfl (hb K.hby hd) rfl k) hr
theorem o_iushr (X : Stand p l e R s m args below meth c T locs cells slots) (K : OCx p s m meth c Z own nm bytes maxL ret) {x y : Int32} (hd : decode bytes pc = .ok (.iushr, 1)) (pc' : Nat) (hp : pc + 1 = pc') (hr : OGo p e below s n0 Q kc ks (T.setTop (mkF m pc' Ls (.int ((x.toUInt32 >>> (y &&& 31).toUInt32).toInt32) :: St)))) : OGo p e below s n0 Q kc ks (T.setTop (mkF m pc Ls (.int y :: .int x :: St))) := by
  subst hp
  exact OGo.st (fun _ k => XS.iushr X.here K.hx rfl (hb K.hby hd) rfl k) hr
theorem o_ladd (X : Stand p l e R s m args below meth c T locs cells slots) (K : OCx p s m meth c Z own nm bytes maxL ret) {x y : Int64} (hd : decode bytes pc = .ok (.ladd, 1)) (pc' : Nat) (hp : pc + 1 = pc') (hr : OGo p e below s n0 Q kc ks (T.setTop (mkF m pc' Ls (.long (x + y) :: St)))) : OGo p e below s n0 Q kc ks (T.setTop (mkF m pc Ls (.long y :: .long x :: St))) := by
  subst hp
  exact OGo.st (fun _ k => XS.ladd X.here K.hx rfl (hb K.hby hd) rfl k) hr
theorem o_lsub (X : Stand p l e R s m args below meth c T locs cells slots) (K : OCx p s m meth c Z own nm bytes maxL ret) {x y : Int64} (hd : decode bytes pc = .ok (.lsub, 1)) (pc' : Nat) (hp : pc + 1 = pc') (hr : OGo p e below s n0 Q kc ks (T.setTop (mkF m pc' Ls (.long (x - y) :: St)))) : OGo p e below s n0 Q kc ks (T.setTop (mkF m pc Ls (.long y :: .long x :: St))) := by
  subst hp
  exact OGo.st (fun _ k => XS.lsub X.here K.hx rfl (hb K.hby hd) rfl k) hr
theorem o_lmul (X : Stand p l e R s m args below meth c T locs cells slots) (K : OCx p s m meth c Z own nm bytes maxL ret) {x y : Int64} (hd : decode bytes pc = .ok (.lmul, 1)) (pc' : Nat) (hp : pc + 1 = pc') (hr : OGo p e below s n0 Q kc ks (T.setTop (mkF m pc' Ls (.long (x * y) :: St)))) : OGo p e below s n0 Q kc ks (T.setTop (mkF m pc Ls (.long y :: .long x :: St))) := by
  subst hp
  exact OGo.st (fun _ k => XS.lmul X.here K.hx rfl (hb K.hby hd) rfl k) hr
theorem o_land (X : Stand p l e R s m args below meth c T locs cells slots) (K : OCx p s m meth c Z own nm bytes maxL ret) {x y : Int64} (hd : decode bytes pc = .ok (.land, 1)) (pc' : Nat) (hp : pc + 1 = pc') (hr : OGo p e below s n0 Q kc ks (T.setTop (mkF m pc' Ls (.long (x &&& y) :: St)))) : OGo p e below s n0 Q kc ks (T.setTop (mkF m pc Ls (.long y :: .long x :: St))) := by
  subst hp
  exact OGo.st (fun _ k => XS.land X.here K.hx rfl (hb K.hby hd) rfl k) hr
theorem o_lor (X : Stand p l e R s m args below meth c T locs cells slots) (K : OCx p s m meth c Z own nm bytes maxL ret) {x y : Int64} (hd : decode bytes pc = .ok (.lor, 1)) (pc' : Nat) (hp : pc + 1 = pc') (hr : OGo p e below s n0 Q kc ks (T.setTop (mkF m pc' Ls (.long (x ||| y) :: St)))) : OGo p e below s n0 Q kc ks (T.setTop (mkF m pc Ls (.long y :: .long x :: St))) := by
  subst hp
  exact OGo.st (fun _ k => XS.lor X.here K.hx rfl (hb K.hby hd) rfl k) hr
theorem o_lxor (X : Stand p l e R s m args below meth c T locs cells slots) (K : OCx p s m meth c Z own nm bytes maxL ret) {x y : Int64} (hd : decode bytes pc = .ok (.lxor, 1)) (pc' : Nat) (hp : pc + 1 = pc') (hr : OGo p e below s n0 Q kc ks (T.setTop (mkF m pc' Ls (.long (x ^^^ y) :: St)))) : OGo p e below s n0 Q kc ks (T.setTop (mkF m pc Ls (.long y :: .long x :: St))) := by
  subst hp
  exact OGo.st (fun _ k => XS.lxor X.here K.hx rfl (hb K.hby hd) rfl k) hr
theorem o_lshl (X : Stand p l e R s m args below meth c T locs cells slots) (K : OCx p s m meth c Z own nm bytes maxL ret) {x : Int64} {y : Int32} (hd : decode bytes pc = .ok (.lshl, 1)) (pc' : Nat) (hp : pc + 1 = pc') (hr : OGo p e below s n0 Q kc ks (T.setTop (mkF m pc' Ls (.long (x <<< (y &&& 0x3f).toInt64) :: St)))) : OGo p e below s n0 Q kc ks (T.setTop (mkF m pc Ls (.int y :: .long x :: St))) := by
  subst hp
  exact OGo.st (fun _ k => XS.lshl X.here K.hx rfl (hb K.hby hd) rfl k) hr
theorem o_lshr (X : Stand p l e R s m args below meth c T locs cells slots) (K : OCx p s m meth c Z own nm bytes maxL ret) {x : Int64} {y : Int32} (hd : decode bytes pc = .ok (.lshr, 1)) (pc' : Nat) (hp : pc + 1 = pc') (hr : OGo p e below s n0 Q kc ks (T.setTop (mkF m pc' Ls (.long (x >>> (y &&& 0x3f).toInt64) :: St)))) : OGo p e below s n0 Q kc ks (T.setTop (mkF m pc Ls (.int y :: .long x :: St))) := by
  subst hp
  exact OGo.st (fun _ k => XS.lshr X.here K.hx rfl (hb K.hby hd) rfl k) hr
theorem o_lushr (X : Stand p l e R s m args below meth c T locs cells slots) (K : OCx p s m meth c Z own nm bytes maxL ret) {x : Int64} {y : Int32} (hd : decode bytes pc = .ok (.lushr, 1)) (pc' : Nat) (hp : pc + 1 = pc') (hr : OGo p e below s n0 Q kc ks (T.setTop (mkF m pc' Ls (.long ((x.toUInt64 >>> (y &&& 0x3f).toInt64.toUInt64).toInt64) :: St)))) : OGo p e below s n0 Q kc ks (T.setTop (mkF m pc Ls (.int y :: .long x :: St))) := by
  subst hp
  exact OGo.st (fun _ k => XS.lushr X.here K.hx rfl (hb K.hby hd) rfl k) hr
theorem o_ldiv (X : Stand p l e R s m args below meth c T locs cells slots) (K : OCx p s m meth c Z own nm bytes maxL ret) {x y : Int64} (hd : decode bytes pc = .ok (.ldiv, 1)) (pc' : Nat) (hp : pc + 1 = pc') (hy : y ≠ 0) (hr : OGo p e below s n0 Q kc ks (T.setTop (mkF m pc' Ls (.long (x / y) :: St)))) : OGo p e below s n0 Q kc ks (T.setTop (mkF m pc Ls (.long y :: .long x :: St))) := by
  subst hp
  exact OGo.st (fun _ k => XS.ldiv X.here K.hx rfl (hb K.hby hd) rfl hy k) hr
theorem o_idiv (X : Stand p l e R s m args below meth c T locs cells slots) (K : OCx p s m meth c Z own nm bytes maxL ret) {x y : Int32} (hd : decode bytes pc = .ok (.idiv, 1)) (pc' : Nat) (hp : pc + 1 = pc') (hy : y ≠ 0) (hr : OGo p e below s n0 Q kc ks (T.setTop (mkF m pc' Ls (.int (x / y) :: St)))) : OGo p e below s n0 Q kc ks (T.setTop (mkF m pc Ls (.int y :: .int x :: St))) := by
  subst hp
  exact OGo.st (fun _ k => XS.idiv X.here K.hx rfl (hb K.hby hd) rfl hy k) hr
theorem o_irem (X : Stand p l e R s m args below meth c T locs cells slots) (K : OCx p s m meth c Z own nm bytes maxL ret) {x y : Int32} (hd : decode bytes pc = .ok (.irem, 1)) (pc' : Nat) (hp : pc + 1 = pc') (hy : y ≠ 0) (hr : OGo p e below s n0 Q kc ks (T.setTop (mkF m pc' Ls (.int (x % y) :: St)))) : OGo p e below s n0 Q kc ks (T.setTop (mkF m pc Ls (.int y :: .int x :: St))) := by
  subst hp
  exact OGo.st (fun _ k => iremM X K.hx rfl (hb K.hby hd) rfl hy k) hr
theorem o_ineg (X : Stand p l e R s m args below meth c T locs cells slots) (K : OCx p s m meth c Z own nm bytes maxL ret) {x : Int32} (hd : decode bytes pc = .ok (.ineg, 1)) (pc' : Nat) (hp : pc + 1 = pc') (hr : OGo p e below s n0 Q kc ks (T.setTop (mkF m pc' Ls (.int (-x) :: St)))) : OGo p e below s n0 Q kc ks (T.setTop (mkF m pc Ls (.int x :: St))) := by
  subst hp
  exact OGo.st (fun _ k => XS.ineg X.here K.hx rfl (hb K.hby hd) rfl k) hr
theorem o_lneg (X : Stand p l e R s m args below meth c T locs cells slots) (K : OCx p s m meth c Z own nm bytes maxL ret) {x : Int64} (hd : decode bytes pc = .ok (.lneg, 1)) (pc' : Nat) (hp : pc + 1 = pc') (hr : OGo p e below s n0 Q kc ks (T.setTop (mkF m pc' Ls (.long (-x) :: St)))) : OGo p e below s n0 Q kc ks (T.setTop (mkF m pc Ls (.long x :: St))) := by
  subst hp
  exact OGo.st (fun _ k => XS.lneg X.here K.hx rfl (hb K.hby hd) rfl k) hr
theorem o_i2b (X : Stand p l e R s m args below meth c T locs cells slots) (K : OCx p s m meth c Z own nm bytes maxL ret) {x : Int32} (hd : decode bytes pc = .ok (.i2b, 1)) (pc' : Nat) (hp : pc + 1 = pc') (hr : OGo p e below s n0 Q kc ks (T.setTop (mkF m pc' Ls (.int (x.toInt8.toInt32) :: St)))) : OGo p e below s n0 Q kc ks (T.setTop (mkF m pc Ls (.int x :: St))) := by
  subst hp
  exact OGo.st (fun _ k => XS.i2b X.here K.hx rfl (hb K.hby hd) rfl k) hr
theorem o_i2c (X : Stand p l e R s m args below meth c T locs cells slots) (K : OCx p s m meth c Z own nm bytes maxL ret) {x : Int32} (hd : decode bytes pc = .ok (.i2c, 1)) (pc' : Nat) (hp : pc + 1 = pc') (hr : OGo p e below s n0 Q kc ks (T.setTop (mkF m pc' Ls (.int (x.toUInt32.toUInt16.toUInt32.toInt32) :: St)))) : OGo p e below s n0 Q kc ks (T.setTop (mkF m pc Ls (.int x :: St))) := by
  subst hp
  exact OGo.st (fun _ k => XS.i2c X.here K.hx rfl (hb K.hby hd) rfl k) hr
theorem o_i2s (X : Stand p l e R s m args below meth c T locs cells slots) (K : OCx p s m meth c Z own nm bytes maxL ret) {x : Int32} (hd : decode bytes pc = .ok (.i2s, 1)) (pc' : Nat) (hp : pc + 1 = pc') (hr : OGo p e below s n0 Q kc ks (T.setTop (mkF m pc' Ls (.int (x.toInt16.toInt32) :: St)))) : OGo p e below s n0 Q kc ks (T.setTop (mkF m pc Ls (.int x :: St))) := by
  subst hp
  exact OGo.st (fun _ k => XS.i2s X.here K.hx rfl (hb K.hby hd) rfl k) hr
theorem o_i2l (X : Stand p l e R s m args below meth c T locs cells slots) (K : OCx p s m meth c Z own nm bytes maxL ret) {x : Int32} (hd : decode bytes pc = .ok (.i2l, 1)) (pc' : Nat) (hp : pc + 1 = pc') (hr : OGo p e below s n0 Q kc ks (T.setTop (mkF m pc' Ls (.long (x.toInt64) :: St)))) : OGo p e below s n0 Q kc ks (T.setTop (mkF m pc Ls (.int x :: St))) := by
  subst hp
  exact OGo.st (fun _ k => XS.i2l X.here K.hx rfl (hb K.hby hd) rfl k) hr
theorem o_l2i (X : Stand p l e R s m args below meth c T locs cells slots) (K : OCx p s m meth c Z own nm bytes maxL ret) {x : Int64} (hd : decode bytes pc = .ok (.l2i, 1)) (pc' : Nat) (hp : pc + 1 = pc') (hr : OGo p e below s n0 Q kc ks (T.setTop (mkF m pc' Ls (.int (x.toInt32) :: St)))) : OGo p e below s n0 Q kc ks (T.setTop (mkF m pc Ls (.long x :: St))) := by
  subst hp
  exact OGo.st (fun _ k => XS.l2i X.here K.hx rfl (hb K.hby hd) rfl k) hr
theorem o_lcmp (X : Stand p l e R s m args below meth c T locs cells slots) (K : OCx p s m meth c Z own nm bytes maxL ret) {x y : Int64} (hd : decode bytes pc = .ok (.lcmp, 1)) (pc' : Nat) (hp : pc + 1 = pc') (hr : OGo p e below s n0 Q kc ks (T.setTop (mkF m pc' Ls (.int (lcmpW x y) :: St)))) : OGo p e below s n0 Q kc ks (T.setTop (mkF m pc Ls (.long y :: .long x :: St))) := by
  subst hp
  exact OGo.st (fun _ k => XS.lcmp X.here K.hx rfl (hb K.hby hd) rfl k) hr
theorem o_dup (X : Stand p l e R s m args below meth c T locs cells slots) (K : OCx p s m meth c Z own nm bytes maxL ret) {x : Value} (hd : decode bytes pc = .ok (.dup, 1)) (pc' : Nat) (hp : pc + 1 = pc') (hc : x.category = 1) (hr : OGo p e below s n0 Q kc ks (T.setTop (mkF m pc' Ls (x :: x :: St)))) : OGo p e below s n0 Q kc ks (T.setTop (mkF m pc Ls (x :: St))) := by
  subst hp
  exact OGo.st (fun _ k => XS.dup X.here K.hx rfl (hb K.hby hd) rfl hc k) hr
theorem o_pop (X : Stand p l e R s m args below meth c T locs cells slots) (K : OCx p s m meth c Z own nm bytes maxL ret) {x : Value} (hd : decode bytes pc = .ok (.pop, 1)) (pc' : Nat) (hp : pc + 1 = pc') (hc : x.category = 1) (hr : OGo p e below s n0 Q kc ks (T.setTop (mkF m pc' Ls St))) : OGo p e below s n0 Q kc ks (T.setTop (mkF m pc Ls (x :: St))) := by
  subst hp
  exact OGo.st (fun _ k => XS.pop X.here K.hx rfl (hb K.hby hd) rfl hc k) hr
theorem o_dupX1 (X : Stand p l e R s m args below meth c T locs cells slots) (K : OCx p s m meth c Z own nm bytes maxL ret) {x y : Value} (hd : decode bytes pc = .ok (.dup_x1, 1)) (pc' : Nat) (hp : pc + 1 = pc') (hc : x.category = 1) (hc' : y.category = 1) (hr : OGo p e below s n0 Q kc ks (T.setTop (mkF m pc' Ls (x :: y :: x :: St)))) : OGo p e below s n0 Q kc ks (T.setTop (mkF m pc Ls (x :: y :: St))) := by
  subst hp
  exact OGo.st (fun _ k => XS.dupX1 X.here K.hx rfl (hb K.hby hd) rfl hc hc' k) hr
theorem o_dup2 (X : Stand p l e R s m args below meth c T locs cells slots) (K : OCx p s m meth c Z own nm bytes maxL ret) {x y : Value} (hd : decode bytes pc = .ok (.dup2, 1)) (pc' : Nat) (hp : pc + 1 = pc') (hc : x.category = 1) (hc' : y.category = 1) (hr : OGo p e below s n0 Q kc ks (T.setTop (mkF m pc' Ls (x :: y :: x :: y :: St)))) : OGo p e below s n0 Q kc ks (T.setTop (mkF m pc Ls (x :: y :: St))) := by
  subst hp
  exact OGo.st (fun _ k => Jvm.Free.XT.dup2 X.here K.hx rfl (hb K.hby hd) rfl hc hc' k) hr
theorem o_dup2L (X : Stand p l e R s m args below meth c T locs cells slots) (K : OCx p s m meth c Z own nm bytes maxL ret) {x : Int64} (hd : decode bytes pc = .ok (.dup2, 1)) (pc' : Nat) (hp : pc + 1 = pc') (hr : OGo p e below s n0 Q kc ks (T.setTop (mkF m pc' Ls (.long x :: .long x :: St)))) : OGo p e below s n0 Q kc ks (T.setTop (mkF m pc Ls (.long x :: St))) := by
  subst hp
  exact OGo.st (fun _ k => Jvm.Free.XT.dup2L X.here K.hx rfl (hb K.hby hd) rfl k) hr
theorem o_goto (X : Stand p l e R s m args below meth c T locs cells slots) (K : OCx p s m meth c Z own nm bytes maxL ret) {o : Int} (hd : decode bytes pc = .ok (.goto o, 3)) (pc' : Nat) (ho : 0 ≤ (pc : Int) + o) (hp : ((pc : Int) + o).toNat = pc') (hr : OGo p e below s n0 Q kc ks (T.setTop (mkF m pc' Ls St))) : OGo p e below s n0 Q kc ks (T.setTop (mkF m pc Ls St)) :=
  OGo.st (fun _ k => XS.goto X.here K.hx rfl (pc0 := pc) rfl (hb K.hby hd) ho hp k) hr
theorem o_icmp_lt_t (X : Stand p l e R s m args below meth c T locs cells slots) (K : OCx p s m meth c Z own nm bytes maxL ret) {x y : Int32} {o : Int} (hd : decode bytes pc = .ok (.if_icmp .lt o, 3)) (pt : Nat) (ho : 0 ≤ (pc : Int) + o) (hp : ((pc : Int) + o).toNat = pt) (q : x.toInt < y.toInt) (hr : OGo p e below s n0 Q kc ks (T.setTop (mkF m pt Ls St))) : OGo p e below s n0 Q kc ks (T.setTop (mkF m pc Ls (.int y :: .int x :: St))) :=
  OGo.st (fun _ k => XS.icmpYes X.here K.hx rfl (pc0 := pc) rfl (hb K.hby hd) rfl ((tlt (Int32.lt_iff_toInt_lt.mpr q)).1) ho hp k) hr
theorem o_icmp_lt_f (X : Stand p l e R s m args below meth c T locs cells slots) (K : OCx p s m meth c Z own nm bytes maxL ret) {x y : Int32} {o : Int} (hd : decode bytes pc = .ok (.if_icmp .lt o, 3)) (pc' : Nat) (hp : pc + 3 = pc') (q : y.toInt ≤ x.toInt) (hr : OGo p e below s n0 Q kc ks (T.setTop (mkF m pc' Ls St))) : OGo p e below s n0 Q kc ks (T.setTop (mkF m pc Ls (.int y :: .int x :: St))) := by
  subst hp
  exact OGo.st (fun _ k => XS.icmpNo X.here K.hx rfl (hb K.hby hd) rfl ((flt (fun r => Int.not_lt.mpr q (Int32.lt_iff_toInt_lt.mp r))).1) k) hr
theorem o_icmp_lt (X : Stand p l e R s m args below meth c T locs cells slots) (K : OCx p s m meth c Z own nm bytes maxL ret) {x y : Int32} {o : Int} (hd : decode bytes pc = .ok (.if_icmp .lt o, 3)) (pt : Nat) (ho : 0 ≤ (pc : Int) + o) (hp : ((pc : Int) + o).toNat = pt) (pc' : Nat) (hp' : pc + 3 = pc') (h1 : x.toInt < y.toInt → OGo p e below s n0 Q kc ks (T.setTop (mkF m pt Ls St))) (h2 : y.toInt ≤ x.toInt → OGo p e below s n0 Q kc ks (T.setTop (mkF m pc' Ls St))) : OGo p e below s n0 Q kc ks (T.setTop (mkF m pc Ls (.int y :: .int x :: St))) :=
  (Classical.em (x.toInt < y.toInt)).elim (fun q => o_icmp_lt_t X K hd pt ho hp q (h1 q)) (fun q => o_icmp_lt_f X K hd pc' hp' (Int.not_lt.mp q) (h2 (Int.not_lt.mp q)))
theorem o_if_lt_t (X : Stand p l e R s m args below meth c T locs cells slots) (K : OCx p s m meth c Z own nm bytes maxL ret) {x : Int32} {o : Int} (hd : decode bytes pc = .ok (.ifCond .lt o, 3)) (pt : Nat) (ho : 0 ≤ (pc : Int) + o) (hp : ((pc : Int) + o).toNat = pt) (q : x.toInt < 0) (hr : OGo p e below s n0 Q kc ks (T.setTop (mkF m pt Ls St))) : OGo p e below s n0 Q kc ks (T.setTop (mkF m pc Ls (.int x :: St))) :=
  OGo.st (fun _ k => XS.ifYes X.here K.hx rfl (pc0 := pc) rfl (hb K.hby hd) rfl ((if0 _ _).trans (tlt (Int32.lt_iff_toInt_lt.mpr (show x.toInt < (0 : Int32).toInt from q))).1) ho hp k) hr
theorem o_if_lt_f (X : Stand p l e R s m args below meth c T locs cells slots) (K : OCx p s m meth c Z own nm bytes maxL ret) {x : Int32} {o : Int} (hd : decode bytes pc = .ok (.ifCond .lt o, 3)) (pc' : Nat) (hp : pc + 3 = pc') (q : 0 ≤ x.toInt) (hr : OGo p e below s n0 Q kc ks (T.setTop (mkF m pc' Ls St))) : OGo p e below s n0 Q kc ks (T.setTop (mkF m pc Ls (.int x :: St))) := by
  subst hp
  exact OGo.st (fun _ k => XS.ifNo X.here K.hx rfl (hb K.hby hd) rfl ((if0 _ _).trans (flt (fun r => Int.not_lt.mpr (show (0 : Int32).toInt ≤ x.toInt from q) (Int32.lt_iff_toInt_lt.mp r))).1) k) hr
theorem o_if_lt (X : Stand p l e R s m args below meth c T locs cells slots) (K : OCx p s m meth c Z own nm bytes maxL ret) {x : Int32} {o : Int} (hd : decode bytes pc = .ok (.ifCond .lt o, 3)) (pt : Nat) (ho : 0 ≤ (pc : Int) + o) (hp : ((pc : Int) + o).toNat = pt) (pc' : Nat) (hp' : pc + 3 = pc') (h1 : x.toInt < 0 → OGo p e below s n0 Q kc ks (T.setTop (mkF m pt Ls St))) (h2 : 0 ≤ x.toInt → OGo p e below s n0 Q kc ks (T.setTop (mkF m pc' Ls St))) : OGo p e below s n0 Q kc ks (T.setTop (mkF m pc Ls (.int x :: St))) :=
  (Classical.em (x.toInt < 0)).elim (fun q => o_if_lt_t X K hd pt ho hp q (h1 q)) (fun q => o_if_lt_f X K hd pc' hp' (Int.not_lt.mp q) (h2 (Int.not_lt.mp q)))
theorem o_icmp_ge_t (X : Stand p l e R s m args below meth c T locs cells slots) (K : OCx p s m meth c Z own nm bytes maxL ret) {x y : Int32} {o : Int} (hd : decode bytes pc = .ok (.if_icmp .ge o, 3)) (pt : Nat) (ho : 0 ≤ (pc : Int) + o) (hp : ((pc : Int) + o).toNat = pt) (q : y.toInt ≤ x.toInt) (hr : OGo p e below s n0 Q kc ks (T.setTop (mkF m pt Ls St))) : OGo p e below s n0 Q kc ks (T.setTop (mkF m pc Ls (.int y :: .int x :: St))) :=
  OGo.st (fun _ k => XS.icmpYes X.here K.hx rfl (pc0 := pc) rfl (hb K.hby hd) rfl ((flt (fun r => Int.not_lt.mpr q (Int32.lt_iff_toInt_lt.mp r))).2.1) ho hp k) hr
theorem o_icmp_ge_f (X : Stand p l e R s m args below meth c T locs cells slots) (K : OCx p s m meth c Z own nm bytes maxL ret) {x y : Int32} {o : Int} (hd : decode bytes pc = .ok (.if_icmp .ge o, 3)) (pc' : Nat) (hp : pc + 3 = pc') (q : x.toInt < y.toInt) (hr : OGo p e below s n0 Q kc ks (T.setTop (mkF m pc' Ls St))) : OGo p e below s n0 Q kc ks (T.setTop (mkF m pc Ls (.int y :: .int x :: St))) := by
  subst hp
  exact OGo.st (fun _ k => XS.icmpNo X.here K.hx rfl (hb K.hby hd) rfl ((tlt (Int32.lt_iff_toInt_lt.mpr q)).2.1) k) hr
theorem o_icmp_ge (X : Stand p l e R s m args below meth c T locs cells slots) (K : OCx p s m meth c Z own nm bytes maxL ret) {x y : Int32} {o : Int} (hd : decode bytes pc = .ok (.if_icmp .ge o, 3)) (pt : Nat) (ho : 0 ≤ (pc : Int) + o) (hp : ((pc : Int) + o).toNat = pt) (pc' : Nat) (hp' : pc + 3 = pc') (h1 : y.toInt ≤ x.toInt → OGo p e below s n0 Q kc ks (T.setTop (mkF m pt Ls St))) (h2 : x.toInt < y.toInt → OGo p e below s n0 Q kc ks (T.setTop (mkF m pc' Ls St))) : OGo p e below s n0 Q kc ks (T.setTop (mkF m pc Ls (.int y :: .int x :: St))) :=
  (Classical.em (y.toInt ≤ x.toInt)).elim (fun q => o_icmp_ge_t X K hd pt ho hp q (h1 q)) (fun q => o_icmp_ge_f X K hd pc' hp' (Int.not_le.mp q) (h2 (Int.not_le.mp q)))
theorem o_if_ge_t (X : Stand p l e R s m args below meth c T locs cells slots) (K : OCx p s m meth c Z own nm bytes maxL ret) {x : Int32} {o : Int} (hd : decode bytes pc = .ok (.ifCond .ge o, 3)) (pt : Nat) (ho : 0 ≤ (pc : Int) + o) (hp : ((pc : Int) + o).toNat = pt) (q : 0 ≤ x.toInt) (hr : OGo p e below s n0 Q kc ks (T.setTop (mkF m pt Ls St))) : OGo p e below s n0 Q kc ks (T.setTop (mkF m pc Ls (.int x :: St))) :=
  OGo.st (fun _ k => XS.ifYes X.here K.hx rfl (pc0 := pc) rfl (hb K.hby hd) rfl ((if0 _ _).trans (flt (fun r => Int.not_lt.mpr (show (0 : Int32).toInt ≤ x.toInt from q) (Int32.lt_iff_toInt_lt.mp r))).2.1) ho hp k) hr
theorem o_if_ge_f (X : Stand p l e R s m args below meth c T locs cells slots) (K : OCx p s m meth c Z own nm bytes maxL ret) {x : Int32} {o : Int} (hd : decode bytes pc = .ok (.ifCond .ge o, 3)) (pc' : Nat) (hp : pc + 3 = pc') (q : x.toInt < 0) (hr : OGo p e below s n0 Q kc ks (T.setTop (mkF m pc' Ls St))) : OGo p e below s n0 Q kc ks (T.setTop (mkF m pc Ls (.int x :: St))) := by
  subst hp
  exact OGo.st (fun _ k => XS.ifNo X.here K.hx rfl (hb K.hby hd) rfl ((if0 _ _).trans (tlt (Int32.lt_iff_toInt_lt.mpr (show x.toInt < (0 : Int32).toInt from q))).2.1) k) hr
theorem o_if_ge (X : Stand p l e R s m args below meth c T locs cells slots) (K : OCx p s m meth c Z own nm bytes maxL ret) {x : Int32} {o : Int} (hd : decode bytes pc = .ok (.ifCond .ge o, 3)) (pt : Nat) (ho : 0 ≤ (pc : Int) + o) (hp : ((pc : Int) + o).toNat = pt) (pc' : Nat) (hp' : pc + 3 = pc') (h1 : 0 ≤ x.toInt → OGo p e below s n0 Q kc ks (T.setTop (mkF m pt Ls St))) (h2 : x.toInt < 0 → OGo p e below s n0 Q kc ks (T.setTop (mkF m pc' Ls St))) : OGo p e below s n0 Q kc ks (T.setTop (mkF m pc Ls (.int x :: St))) :=
  (Classical.em (0 ≤ x.toInt)).elim (fun q => o_if_ge_t X K hd pt ho hp q (h1 q)) (fun q => o_if_ge_f X K hd pc' hp' (Int.not_le.mp q) (h2 (Int.not_le.mp q)))
theorem o_icmp_gt_t (X : Stand p l e R s m args below meth c T locs cells slots) (K : OCx p s m meth c Z own nm bytes maxL ret) {x y : Int32} {o : Int} (hd : decode bytes pc = .ok (.if_icmp .gt o, 3)) (pt : Nat) (ho : 0 ≤ (pc : Int) + o) (hp : ((pc : Int) + o).toNat = pt) (q : y.toInt < x.toInt) (hr : OGo p e below s n0 Q kc ks (T.setTop (mkF m pt Ls St))) : OGo p e below s n0 Q kc ks (T.setTop (mkF m pc Ls (.int y :: .int x :: St))) :=
  OGo.st (fun _ k => XS.icmpYes X.here K.hx rfl (pc0 := pc) rfl (hb K.hby hd) rfl ((tlt (Int32.lt_iff_toInt_lt.mpr q)).2.2.1) ho hp k) hr
theorem o_icmp_gt_f (X : Stand p l e R s m args below meth c T locs cells slots) (K : OCx p s m meth c Z own nm bytes maxL ret) {x y : Int32} {o : Int} (hd : decode bytes pc = .ok (.if_icmp .gt o, 3)) (pc' : Nat) (hp : pc + 3 = pc') (q : x.toInt ≤ y.toInt) (hr : OGo p e below s n0 Q kc ks (T.setTop (mkF m pc' Ls St))) : OGo p e below s n0 Q kc ks (T.setTop (mkF m pc Ls (.int y :: .int x :: St))) := by
  subst hp
  exact OGo.st (fun _ k => XS.icmpNo X.here K.hx rfl (hb K.hby hd) rfl ((flt (fun r => Int.not_lt.mpr q (Int32.lt_iff_toInt_lt.mp r))).2.2.1) k) hr
theorem o_icmp_gt (X : Stand p l e R s m args below meth c T locs cells slots) (K : OCx p s m meth c Z own nm bytes maxL ret) {x y : Int32} {o : Int} (hd : decode bytes pc = .ok (.if_icmp .gt o, 3)) (pt : Nat) (ho : 0 ≤ (pc : Int) + o) (hp : ((pc : Int) + o).toNat = pt) (pc' : Nat) (hp' : pc + 3 = pc') (h1 : y.toInt < x.toInt → OGo p e below s n0 Q kc ks (T.setTop (mkF m pt Ls St))) (h2 : x.toInt ≤ y.toInt → OGo p e below s n0 Q kc ks (T.setTop (mkF m pc' Ls St))) : OGo p e below s n0 Q kc ks (T.setTop (mkF m pc Ls (.int y :: .int x :: St))) :=
  (Classical.em (y.toInt < x.toInt)).elim (fun q => o_icmp_gt_t X K hd pt ho hp q (h1 q)) (fun q => o_icmp_gt_f X K hd pc' hp' (Int.not_lt.mp q) (h2 (Int.not_lt.mp q)))
theorem o_if_gt_t (X : Stand p l e R s m args below meth c T locs cells slots) (K : OCx p s m meth c Z own nm bytes maxL ret) {x : Int32} {o : Int} (hd : decode bytes pc = .ok (.ifCond .gt o, 3)) (pt : Nat) (ho : 0 ≤ (pc : Int) + o) (hp : ((pc : Int) + o).toNat = pt) (q : 0 < x.toInt) (hr : OGo p e below s n0 Q kc ks (T.setTop (mkF m pt Ls St))) : OGo p e below s n0 Q kc ks (T.setTop (mkF m pc Ls (.int x :: St))) :=
  OGo.st (fun _ k => XS.ifYes X.here K.hx rfl (pc0 := pc) rfl (hb K.hby hd) rfl ((if0 _ _).trans (tlt (Int32.lt_iff_toInt_lt.mpr (show (0 : Int32).toInt < x.toInt from q))).2.2.1) ho hp k) hr
theorem o_if_gt_f (X : Stand p l e R s m args below meth c T locs cells slots) (K : OCx p s m meth c Z own nm bytes maxL ret) {x : Int32} {o : Int} (hd : decode bytes pc = .ok (.ifCond .gt o, 3)) (pc' : Nat) (hp : pc + 3 = pc') (q : x.toInt ≤ 0) (hr : OGo p e below s n0 Q kc ks (T.setTop (mkF m pc' Ls St))) : OGo p e below s n0 Q kc ks (T.setTop (mkF m pc Ls (.int x :: St))) := by
  subst hp
  exact OGo.st (fun _ k => XS.ifNo X.here K.hx rfl (hb K.hby hd) rfl ((if0 _ _).trans (flt (fun r => Int.not_lt.mpr (show x.toInt ≤ (0 : Int32).toInt from q) (Int32.lt_iff_toInt_lt.mp r))).2.2.1) k) hr
theorem o_if_gt (X : Stand p l e R s m args below meth c T locs cells slots) (K : OCx p s m meth c Z own nm bytes maxL ret) {x : Int32} {o : Int} (hd : decode bytes pc = .ok (.ifCond .gt o, 3)) (pt : Nat) (ho : 0 ≤ (pc : Int) + o) (hp : ((pc : Int) + o).toNat = pt) (pc' : Nat) (hp' : pc + 3 = pc') (h1 : 0 < x.toInt → OGo p e below s n0 Q kc ks (T.setTop (mkF m pt Ls St))) (h2 : x.toInt ≤ 0 → OGo p e below s n0 Q kc ks (T.setTop (mkF m pc' Ls St))) : OGo p e below s n0 Q kc ks (T.setTop (mkF m pc Ls (.int x :: St))) :=
  (Classical.em (0 < x.toInt)).elim (fun q => o_if_gt_t X K hd pt ho hp q (h1 q)) (fun q => o_if_gt_f X K hd pc' hp' (Int.not_lt.mp q) (h2 (Int.not_lt.mp q)))
theorem o_icmp_le_t (X : Stand p l e R s m args below meth c T locs cells slots) (K : OCx p s m meth c Z own nm bytes maxL ret) {x y : Int32} {o : Int} (hd : decode bytes pc = .ok (.if_icmp .le o, 3)) (pt : Nat) (ho : 0 ≤ (pc : Int) + o) (hp : ((pc : Int) + o).toNat = pt) (q : x.toInt ≤ y.toInt) (hr : OGo p e below s n0 Q kc ks (T.setTop (mkF m pt Ls St))) : OGo p e below s n0 Q kc ks (T.setTop (mkF m pc Ls (.int y :: .int x :: St))) :=
  OGo.st (fun _ k => XS.icmpYes X.here K.hx rfl (pc0 := pc) rfl (hb K.hby hd) rfl ((flt (fun r => Int.not_lt.mpr q (Int32.lt_iff_toInt_lt.mp r))).2.2.2) ho hp k) hr
theorem o_icmp_le_f (X : Stand p l e R s m args below meth c T locs cells slots) (K : OCx p s m meth c Z own nm bytes maxL ret) {x y : Int32} {o : Int} (hd : decode bytes pc = .ok (.if_icmp .le o, 3)) (pc' : Nat) (hp : pc + 3 = pc') (q : y.toInt < x.toInt) (hr : OGo p e below s n0 Q kc ks (T.setTop (mkF m pc' Ls St))) : OGo p e below s n0 Q kc ks (T.setTop (mkF m pc Ls (.int y :: .int x :: St))) := by
  subst hp
  exact OGo.st (fun _ k => XS.icmpNo X.here K.hx rfl (hb K.hby hd) rfl ((tlt (Int32.lt_iff_toInt_lt.mpr q)).2.2.2) k) hr
theorem o_icmp_le (X : Stand p l e R s m args below meth c T locs cells slots) (K : OCx p s m meth c Z own nm bytes maxL ret) {x y : Int32} {o : Int} (hd : decode bytes pc = .ok (.if_icmp .le o, 3)) (pt : Nat) (ho : 0 ≤ (pc : Int) + o) (hp : ((pc : Int) + o).toNat = pt) (pc' : Nat) (hp' : pc + 3 = pc') (h1 : x.toInt ≤ y.toInt → OGo p e below s n0 Q kc ks (T.setTop (mkF m pt Ls St))) (h2 : y.toInt < x.toInt → OGo p e below s n0 Q kc ks (T.setTop (mkF m pc' Ls St))) : OGo p e below s n0 Q kc ks (T.setTop (mkF m pc Ls (.int y :: .int x :: St))) :=
  (Classical.em (x.toInt ≤ y.toInt)).elim (fun q => o_icmp_le_t X K hd pt ho hp q (h1 q)) (fun q => o_icmp_le_f X K hd pc' hp' (Int.not_le.mp q) (h2 (Int.not_le.mp q)))
theorem o_if_le_t (X : Stand p l e R s m args below meth c T locs cells slots) (K : OCx p s m meth c Z own nm bytes maxL ret) {x : Int32} {o : Int} (hd : decode bytes pc = .ok (.ifCond .le o, 3)) (pt : Nat) (ho : 0 ≤ (pc : Int) + o) (hp : ((pc : Int) + o).toNat = pt) (q : x.toInt ≤ 0) (hr : OGo p e below s n0 Q kc ks (T.setTop (mkF m pt Ls St))) : OGo p e below s n0 Q kc ks (T.setTop (mkF m pc Ls (.int x :: St))) :=
  OGo.st (fun _ k => XS.ifYes X.here K.hx rfl (pc0 := pc) rfl (hb K.hby hd) rfl ((if0 _ _).trans (flt (fun r => Int.not_lt.mpr (show x.toInt ≤ (0 : Int32).toInt from q) (Int32.lt_iff_toInt_lt.mp r))).2.2.2) ho hp k) hr
theorem o_if_le_f (X : Stand p l e R s m args below meth c T locs cells slots) (K : OCx p s m meth c Z own nm bytes maxL ret) {x : Int32} {o : Int} (hd : decode bytes pc = .ok (.ifCond .le o, 3)) (pc' : Nat) (hp : pc + 3 = pc') (q : 0 < x.toInt) (hr : OGo p e below s n0 Q kc ks (T.setTop (mkF m pc' Ls St))) : OGo p e below s n0 Q kc ks (T.setTop (mkF m pc Ls (.int x :: St))) := by
  subst hp
  exact OGo.st (fun _ k => XS.ifNo X.here K.hx rfl (hb K.hby hd) rfl ((if0 _ _).trans (tlt (Int32.lt_iff_toInt_lt.mpr (show (0 : Int32).toInt < x.toInt from q))).2.2.2) k) hr
theorem o_if_le (X : Stand p l e R s m args below meth c T locs cells slots) (K : OCx p s m meth c Z own nm bytes maxL ret) {x : Int32} {o : Int} (hd : decode bytes pc = .ok (.ifCond .le o, 3)) (pt : Nat) (ho : 0 ≤ (pc : Int) + o) (hp : ((pc : Int) + o).toNat = pt) (pc' : Nat) (hp' : pc + 3 = pc') (h1 : x.toInt ≤ 0 → OGo p e below s n0 Q kc ks (T.setTop (mkF m pt Ls St))) (h2 : 0 < x.toInt → OGo p e below s n0 Q kc ks (T.setTop (mkF m pc' Ls St))) : OGo p e below s n0 Q kc ks (T.setTop (mkF m pc Ls (.int x :: St))) :=
  (Classical.em (x.toInt ≤ 0)).elim (fun q => o_if_le_t X K hd pt ho hp q (h1 q)) (fun q => o_if_le_f X K hd pc' hp' (Int.not_le.mp q) (h2 (Int.not_le.mp q)))
theorem o_icmp_eq_t (X : Stand p l e R s m args below meth c T locs cells slots) (K : OCx p s m meth c Z own nm bytes maxL ret) {x y : Int32} {o : Int} (hd : decode bytes pc = .ok (.if_icmp .eq o, 3)) (pt : Nat) (ho : 0 ≤ (pc : Int) + o) (hp : ((pc : Int) + o).toNat = pt) (q : x = y) (hr : OGo p e below s n0 Q kc ks (T.setTop (mkF m pt Ls St))) : OGo p e below s n0 Q kc ks (T.setTop (mkF m pc Ls (.int y :: .int x :: St))) :=
  OGo.st (fun _ k => XS.icmpYes X.here K.hx rfl (pc0 := pc) rfl (hb K.hby hd) rfl ((teq q).1) ho hp k) hr
theorem o_icmp_eq_f (X : Stand p l e R s m args below meth c T locs cells slots) (K : OCx p s m meth c Z own nm bytes maxL ret) {x y : Int32} {o : Int} (hd : decode bytes pc = .ok (.if_icmp .eq o, 3)) (pc' : Nat) (hp : pc + 3 = pc') (q : ¬ x = y) (hr : OGo p e below s n0 Q kc ks (T.setTop (mkF m pc' Ls St))) : OGo p e below s n0 Q kc ks (T.setTop (mkF m pc Ls (.int y :: .int x :: St))) := by
  subst hp
  exact OGo.st (fun _ k => XS.icmpNo X.here K.hx rfl (hb K.hby hd) rfl ((feq q).1) k) hr
theorem o_icmp_eq (X : Stand p l e R s m args below meth c T locs cells slots) (K : OCx p s m meth c Z own nm bytes maxL ret) {x y : Int32} {o : Int} (hd : decode bytes pc = .ok (.if_icmp .eq o, 3)) (pt : Nat) (ho : 0 ≤ (pc : Int) + o) (hp : ((pc : Int) + o).toNat = pt) (pc' : Nat) (hp' : pc + 3 = pc') (h1 : x = y → OGo p e below s n0 Q kc ks (T.setTop (mkF m pt Ls St))) (h2 : ¬ x = y → OGo p e below s n0 Q kc ks (T.setTop (mkF m pc' Ls St))) : OGo p e below s n0 Q kc ks (T.setTop (mkF m pc Ls (.int y :: .int x :: St))) :=
  (Classical.em (x = y)).elim (fun q => o_icmp_eq_t X K hd pt ho hp q (h1 q)) (fun q => o_icmp_eq_f X K hd pc' hp' (id q) (h2 (id q)))
theorem o_if_eq_t (X : Stand p l e R s m args below meth c T locs cells slots) (K : OCx p s m meth c Z own nm bytes maxL ret) {x : Int32} {o : Int} (hd : decode bytes pc = .ok (.ifCond .eq o, 3)) (pt : Nat) (ho : 0 ≤ (pc : Int) + o) (hp : ((pc : Int) + o).toNat = pt) (q : x = 0) (hr : OGo p e below s n0 Q kc ks (T.setTop (mkF m pt Ls St))) : OGo p e below s n0 Q kc ks (T.setTop (mkF m pc Ls (.int x :: St))) :=
  OGo.st (fun _ k => XS.ifYes X.here K.hx rfl (pc0 := pc) rfl (hb K.hby hd) rfl ((if0 _ _).trans (teq (show x = (0 : Int32) from q)).1) ho hp k) hr
theorem o_if_eq_f (X : Stand p l e R s m args below meth c T locs cells slots) (K : OCx p s m meth c Z own nm bytes maxL ret) {x : Int32} {o : Int} (hd : decode bytes pc = .ok (.ifCond .eq o, 3)) (pc' : Nat) (hp : pc + 3 = pc') (q : ¬ x = 0) (hr : OGo p e below s n0 Q kc ks (T.setTop (mkF m pc' Ls St))) : OGo p e below s n0 Q kc ks (T.setTop (mkF m pc Ls (.int x :: St))) := by
  subst hp
  exact OGo.st (fun _ k => XS.ifNo X.here K.hx rfl (hb K.hby hd) rfl ((if0 _ _).trans (feq (show ¬ x = (0 : Int32) from q)).1) k) hr
theorem o_if_eq (X : Stand p l e R s m args below meth c T locs cells slots) (K : OCx p s m meth c Z own nm bytes maxL ret) {x : Int32} {o : Int} (hd : decode bytes pc = .ok (.ifCond .eq o, 3)) (pt : Nat) (ho : 0 ≤ (pc : Int) + o) (hp : ((pc : Int) + o).toNat = pt) (pc' : Nat) (hp' : pc + 3 = pc') (h1 : x = 0 → OGo p e below s n0 Q kc ks (T.setTop (mkF m pt Ls St))) (h2 : ¬ x = 0 → OGo p e below s n0 Q kc ks (T.setTop (mkF m pc' Ls St))) : OGo p e below s n0 Q kc ks (T.setTop (mkF m pc Ls (.int x :: St))) :=
  (Classical.em (x = 0)).elim (fun q => o_if_eq_t X K hd pt ho hp q (h1 q)) (fun q => o_if_eq_f X K hd pc' hp' (id q) (h2 (id q)))
theorem o_icmp_ne_t (X : Stand p l e R s m args below meth c T locs cells slots) (K : OCx p s m meth c Z own nm bytes maxL ret) {x y : Int32} {o : Int} (hd : decode bytes pc = .ok (.if_icmp .ne o, 3)) (pt : Nat) (ho : 0 ≤ (pc : Int) + o) (hp : ((pc : Int) + o).toNat = pt) (q : ¬ x = y) (hr : OGo p e below s n0 Q kc ks (T.setTop (mkF m pt Ls St))) : OGo p e below s n0 Q kc ks (T.setTop (mkF m pc Ls (.int y :: .int x :: St))) :=
  OGo.st (fun _ k => XS.icmpYes X.here K.hx rfl (pc0 := pc) rfl (hb K.hby hd) rfl ((feq q).2) ho hp k) hr
theorem o_icmp_ne_f (X : Stand p l e R s m args below meth c T locs cells slots) (K : OCx p s m meth c Z own nm bytes maxL ret) {x y : Int32} {o : Int} (hd : decode bytes pc = .ok (.if_icmp .ne o, 3)) (pc' : Nat) (hp : pc + 3 = pc') (q : x = y) (hr : OGo p e below s n0 Q kc ks (T.setTop (mkF m pc' Ls St))) : OGo p e below s n0 Q kc ks (T.setTop (mkF m pc Ls (.int y :: .int x :: St))) := by
  subst hp
  exact OGo.st (fun _ k => XS.icmpNo X.here K.hx rfl (hb K.hby hd) rfl ((teq q).2) k) hr
theorem o_icmp_ne (X : Stand p l e R s m args below meth c T locs cells slots) (K : OCx p s m meth c Z own nm bytes maxL ret) {x y : Int32} {o : Int} (hd : decode bytes pc = .ok (.if_icmp .ne o, 3)) (pt : Nat) (ho : 0 ≤ (pc : Int) + o) (hp : ((pc : Int) + o).toNat = pt) (pc' : Nat) (hp' : pc + 3 = pc') (h1 : ¬ x = y → OGo p e below s n0 Q kc ks (T.setTop (mkF m pt Ls St))) (h2 : x = y → OGo p e below s n0 Q kc ks (T.setTop (mkF m pc' Ls St))) : OGo p e below s n0 Q kc ks (T.setTop (mkF m pc Ls (.int y :: .int x :: St))) :=
  (Classical.em (¬ x = y)).elim (fun q => o_icmp_ne_t X K hd pt ho hp q (h1 q)) (fun q => o_icmp_ne_f X K hd pc' hp' (Classical.not_not.mp q) (h2 (Classical.not_not.mp q)))
theorem o_if_ne_t (X : Stand p l e R s m args below meth c T locs cells slots) (K : OCx p s m meth c Z own nm bytes maxL ret) {x : Int32} {o : Int} (hd : decode bytes pc = .ok (.ifCond .ne o, 3)) (pt : Nat) (ho : 0 ≤ (pc : Int) + o) (hp : ((pc : Int) + o).toNat = pt) (q : ¬ x = 0) (hr : OGo p e below s n0 Q kc ks (T.setTop (mkF m pt Ls St))) : OGo p e below s n0 Q kc ks (T.setTop (mkF m pc Ls (.int x :: St))) :=
  OGo.st (fun _ k => XS.ifYes X.here K.hx rfl (pc0 := pc) rfl (hb K.hby hd) rfl ((if0 _ _).trans (feq (show ¬ x = (0 : Int32) from q)).2) ho hp k) hr
theorem o_if_ne_f (X : Stand p l e R s m args below meth c T locs cells slots) (K : OCx p s m meth c Z own nm bytes maxL ret) {x : Int32} {o : Int} (hd : decode bytes pc = .ok (.ifCond .ne o, 3)) (pc' : Nat) (hp : pc + 3 = pc') (q : x = 0) (hr : OGo p e below s n0 Q kc ks (T.setTop (mkF m pc' Ls St))) : OGo p e below s n0 Q kc ks (T.setTop (mkF m pc Ls (.int x :: St))) := by
  subst hp
  exact OGo.st (fun _ k => XS.ifNo X.here K.hx rfl (hb K.hby hd) rfl ((if0 _ _).trans (teq (show x = (0 : Int32) from q)).2) k) hr
theorem o_if_ne (X : Stand p l e R s m args below meth c T locs cells slots) (K : OCx p s m meth c Z own nm bytes maxL ret) {x : Int32} {o : Int} (hd : decode bytes pc = .ok (.ifCond .ne o, 3)) (pt : Nat) (ho : 0 ≤ (pc : Int) + o) (hp : ((pc : Int) + o).toNat = pt) (pc' : Nat) (hp' : pc + 3 = pc') (h1 : ¬ x = 0 → OGo p e below s n0 Q kc ks (T.setTop (mkF m pt Ls St))) (h2 : x = 0 → OGo p e below s n0 Q kc ks (T.setTop (mkF m pc' Ls St))) : OGo p e below s n0 Q kc ks (T.setTop (mkF m pc Ls (.int x :: St))) :=
  (Classical.em (¬ x = 0)).elim (fun q => o_if_ne_t X K hd pt ho hp q (h1 q)) (fun q => o_if_ne_f X K hd pc' hp' (Classical.not_not.mp q) (h2 (Classical.not_not.mp q)))
theorem o_lw_lt {x y : Int64} : (lcmpW x y).toInt < 0 ↔ x.toInt < y.toInt := by
  have q := lw_lt x y
  rw [Int32.lt_iff_toInt_lt, Int64.lt_iff_toInt_lt] at q
  exact q
theorem o_lw_gt {x y : Int64} : 0 < (lcmpW x y).toInt ↔ y.toInt < x.toInt := by
  have q := lw_gt x y
  rw [Int32.lt_iff_toInt_lt, Int64.lt_iff_toInt_lt] at q
  exact q
theorem o_lw_le {x y : Int64} : (lcmpW x y).toInt ≤ 0 ↔ x.toInt ≤ y.toInt := by
  have q := @o_lw_gt x y
  omega
theorem o_lw_ge {x y : Int64} : 0 ≤ (lcmpW x y).toInt ↔ y.toInt ≤ x.toInt := by
  have q := @o_lw_lt x y
  omega
theorem o_lw_eq {x y : Int64} : lcmpW x y = 0 ↔ x = y := lw_eq x y
theorem o_ifnull_t (X : Stand p l e R s m args below meth c T locs cells slots) (K : OCx p s m meth c Z own nm bytes maxL ret) {o : Int} (hd : decode bytes pc = .ok (.ifnull o, 3)) (pt : Nat) (ho : 0 ≤ (pc : Int) + o) (hp : ((pc : Int) + o).toNat = pt) (hr : OGo p e below s n0 Q kc ks (T.setTop (mkF m pt Ls St))) : OGo p e below s n0 Q kc ks (T.setTop (mkF m pc Ls (.null :: St))) :=
  OGo.st (fun _ k => XS.ifnullYes X.here K.hx rfl (pc0 := pc) rfl (hb K.hby hd) rfl ho hp k) hr
theorem o_ifnull_f (X : Stand p l e R s m args below meth c T locs cells slots) (K : OCx p s m meth c Z own nm bytes maxL ret) {o : Int} {b : Addr} (hd : decode bytes pc = .ok (.ifnull o, 3)) (pc' : Nat) (hp : pc + 3 = pc') (hr : OGo p e below s n0 Q kc ks (T.setTop (mkF m pc' Ls St))) : OGo p e below s n0 Q kc ks (T.setTop (mkF m pc Ls (.ref b :: St))) := by
  subst hp
  exact OGo.st (fun _ k => XS.ifnullNo X.here K.hx rfl (hb K.hby hd) rfl k) hr
theorem o_ifnonnull_t (X : Stand p l e R s m args below meth c T locs cells slots) (K : OCx p s m meth c Z own nm bytes maxL ret) {o : Int} {b : Addr} (hd : decode bytes pc = .ok (.ifnonnull o, 3)) (pt : Nat) (ho : 0 ≤ (pc : Int) + o) (hp : ((pc : Int) + o).toNat = pt) (hr : OGo p e below s n0 Q kc ks (T.setTop (mkF m pt Ls St))) : OGo p e below s n0 Q kc ks (T.setTop (mkF m pc Ls (.ref b :: St))) :=
  OGo.st (fun _ k => XS.ifnonnullYes X.here K.hx rfl (pc0 := pc) rfl (hb K.hby hd) rfl ho hp k) hr
theorem o_ifnonnull_f (X : Stand p l e R s m args below meth c T locs cells slots) (K : OCx p s m meth c Z own nm bytes maxL ret) {o : Int} (hd : decode bytes pc = .ok (.ifnonnull o, 3)) (pc' : Nat) (hp : pc + 3 = pc') (hr : OGo p e below s n0 Q kc ks (T.setTop (mkF m pc' Ls St))) : OGo p e below s n0 Q kc ks (T.setTop (mkF m pc Ls (.null :: St))) := by
  subst hp
  exact OGo.st (fun _ k => XS.ifnonnullNo X.here K.hx rfl (hb K.hby hd) rfl k) hr
theorem o_acmp (X : Stand p l e R s m args below meth c T locs cells slots) (K : OCx p s m meth c Z own nm bytes maxL ret) {cd : ACond} {x y : Value} {o : Int} (hd : decode bytes pc = .ok (.if_acmp cd o, 3)) (pc' : Nat) (h1 : x.isRef = true) (h2 : y.isRef = true) (same : Bool) (hq : decide (x = y) = same) (ho : 0 ≤ (pc : Int) + o) (hp : pc' = if acV cd same = true then ((pc : Int) + o).toNat else pc + 3) (hr : OGo p e below s n0 Q kc ks (T.setTop (mkF m pc' Ls St))) : OGo p e below s n0 Q kc ks (T.setTop (mkF m pc Ls (y :: x :: St))) :=
  OGo.st (fun _ k => Jvm.RoadKit.acmp (g := mkF m pc Ls (y :: x :: St)) X K.hx rfl h1 h2 (pc0 := pc) rfl (hb K.hby hd) rfl hq ho hp k) hr
theorem o_leave (X : Stand p l e R s m args below meth c T locs cells slots) (hlk : meth.locks = false) {v : Option Value} (hv : meth.sig.returnType = none → v = none) {S : State} (hc : cells ≤ kc) (hs : slots ≤ ks) (N : Fr n0 locs) (hQ : Q v T.heap)
    (k : ∀ fs, (∀ (f : JFrame) (acts : List Action), f.method = m → f.locked = none → f.entered = [] → (doReturn e (T.setTop f) acts v).1 = T.setFrames fs) → Steps p.tables e below S (T.setFrames fs)) : OGo p e below s n0 Q kc ks S := by
  obtain ⟨fs, hr, hrun, hended, hW, hsame⟩ := X.leave (v := v) hv
  exact ⟨_, _, k fs hr, hrun, hended, v, locs, rfl, ⟨hQ, N⟩, ⟨v, rfl⟩, hW, hsame.mono hc hs⟩
theorem o_ireturn (X : Stand p l e R s m args below meth c T locs cells slots) (K : OCx p s m meth c Z own nm bytes maxL (some .int)) {z : Int32} (hd : decode bytes pc = .ok (.ireturn, 1)) (hc : cells ≤ kc) (hs : slots ≤ ks) (N : Fr n0 locs) (hQ : Q (some (.int z)) T.heap) : OGo p e below s n0 Q kc ks (T.setTop (mkF m pc Ls (.int z :: St))) :=
  o_leave X K.hlk (fun h => by rw [K.hret] at h; cases h) hc hs N hQ (fun fs hr => retI X K.hx K.hret (hb K.hby hd) hr)
theorem o_ireturnN {t : FieldType} (X : Stand p l e R s m args below meth c T locs cells slots) (K : OCx p s m meth c Z own nm bytes maxL (some t)) (ht : t = .boolean ∨ t = .byte ∨ t = .char ∨ t = .short) {z : Int32} (hd : decode bytes pc = .ok (.ireturn, 1)) (hc : cells ≤ kc) (hs : slots ≤ ks) (N : Fr n0 locs) (hQ : Q (some (.int (nar t z))) T.heap) : OGo p e below s n0 Q kc ks (T.setTop (mkF m pc Ls (.int z :: St))) :=
  o_leave X K.hlk (fun h => by rw [K.hret] at h; cases h) hc hs N hQ (fun fs hr => retN X K.hx K.hret ht (hb K.hby hd) hr)
theorem o_lreturn (X : Stand p l e R s m args below meth c T locs cells slots) (K : OCx p s m meth c Z own nm bytes maxL (some .long)) {z : Int64} (hd : decode bytes pc = .ok (.lreturn, 1)) (hc : cells ≤ kc) (hs : slots ≤ ks) (N : Fr n0 locs) (hQ : Q (some (.long z)) T.heap) : OGo p e below s n0 Q kc ks (T.setTop (mkF m pc Ls (.long z :: St))) :=
  o_leave X K.hlk (fun h => by rw [K.hret] at h; cases h) hc hs N hQ (fun fs hr => retOut X K.hx K.hret rfl (Or.inr (Or.inl ⟨rfl, rfl, z, rfl⟩)) (hb K.hby hd) hr)
theorem o_areturn {t : FieldType} (X : Stand p l e R s m args below meth c T locs cells slots) (K : OCx p s m meth c Z own nm bytes maxL (some t)) (ht : t.isReference = true) {z : Value} (hn : narrow t z = z) (hz : z.isRef = true) (hd : decode bytes pc = .ok (.areturn, 1)) (hc : cells ≤ kc) (hs : slots ≤ ks) (N : Fr n0 locs) (hQ : Q (some z) T.heap) : OGo p e below s n0 Q kc ks (T.setTop (mkF m pc Ls (z :: St))) :=
  o_leave X K.hlk (fun h => by rw [K.hret] at h; cases h) hc hs N hQ (fun fs hr => retOut X K.hx K.hret hn (Or.inr (Or.inr (Or.inr (Or.inr ⟨rfl, ht, hz⟩)))) (hb K.hby hd) hr)
theorem o_return (X : Stand p l e R s m args below meth c T locs cells slots) (K : OCx p s m meth c Z own nm bytes maxL none) (hd : decode bytes pc = .ok (.return_, 1)) (hc : cells ≤ kc) (hs : slots ≤ ks) (N : Fr n0 locs) (hQ : Q none T.heap) : OGo p e below s n0 Q kc ks (T.setTop (mkF m pc Ls [])) :=
  o_leave X K.hlk (fun _ => rfl) hc hs N hQ (fun fs hr => X.returnOut K.hx K.hret (hb K.hby hd) hr)
/-- an array: its kind, its length, what each place holds -/
def OAr (Z : State) (h : Heap) (a : Addr) (ty : FieldType) (n : Nat) (f : Nat → Value) : Prop := ∃ c : Cell, Arr Z h a c ty ∧ c.slots.size = n ∧ n < 2147483648 ∧ (∀ j, j < n → c.slots[j]? = some (f j)) ∧ ∀ j, j < n → fits ty (f j) = true
theorem OAr.lt {a : Addr} {ty : FieldType} {n : Nat} {f : Nat → Value} (A : OAr Z h a ty n f) : a < h.size := by obtain ⟨c, A, -⟩ := A; exact A.lt
theorem OAr.len {a : Addr} {ty : FieldType} {n : Nat} {f : Nat → Value} (A : OAr Z h a ty n f) : n < 2147483648 := by obtain ⟨c, -, -, A, -⟩ := A; exact A
theorem OAr.fit {a : Addr} {ty : FieldType} {n : Nat} {f : Nat → Value} (A : OAr Z h a ty n f) {j : Nat} (hj : j < n) : fits ty (f j) = true := by obtain ⟨c, -, -, -, -, A⟩ := A; exact A j hj
theorem OAr.ext {a : Addr} {ty : FieldType} {n : Nat} {f : Nat → Value} (A : OAr Z h a ty n f) (E : Ext h h') : OAr Z h' a ty n f := by obtain ⟨c, A, r⟩ := A; exact ⟨c, A.ext E, r⟩
theorem OAr.other {a b : Addr} {ty : FieldType} {n sl : Nat} {f : Nat → Value} {v : Value} (A : OAr Z h b ty n f) (W : Wr h h' a sl v) (q : b ≠ a) : OAr Z h' b ty n f := by obtain ⟨c, A, r⟩ := A; exact ⟨c, A.other W q, r⟩
theorem OAr.keep {a : Addr} {ty : FieldType} {n : Nat} {f : Nat → Value} {ws : List Addr} (A : OAr Z h a ty n f) (E : Keep h h' ws) (q : a ∉ ws) : OAr Z h' a ty n f := by obtain ⟨c, A, r⟩ := A; exact ⟨c, ⟨E.2.1 _ _ A.1 q, A.2⟩, r⟩
theorem OAr.congr {a : Addr} {ty : FieldType} {n : Nat} {f g : Nat → Value} (A : OAr Z h a ty n f) (q : ∀ j, j < n → f j = g j) : OAr Z h a ty n g := by
  obtain ⟨c, A, r1, r2, r3, r4⟩ := A
  exact ⟨c, A, r1, r2, fun j hj => by rw [← q j hj]; exact r3 j hj, fun j hj => by rw [← q j hj]; exact r4 j hj⟩
theorem OAr.same {a : Addr} {ty : FieldType} {n i : Nat} {f : Nat → Value} {v : Value} (A : OAr Z h a ty n f) (W : Wr h h' a i v) (hv : fits ty v = true) : OAr Z h' a ty n (fun q => if q = i then v else f q) := by
  obtain ⟨c, A, r1, r2, r3, r4⟩ := A
  refine ⟨_, A.same W, by rw [sz_set]; exact r1, r2, fun j hj => ?_, fun j hj => ?_⟩
  · by_cases e : j = i
    · subst e; simp [Cell.setSlot, r1, hj]
    · have e' : ¬ i = j := fun z => e z.symm
      simp [Cell.setSlot, e, e', r3 j hj]
  · by_cases e : j = i
    · simp [e, hv]
    · simp [e, r4 j hj]
theorem o_idx {j : Int32} {i n : Nat} {c : Cell} (hj : j.toInt = (i : Int)) (hi : i < n) (r1 : c.slots.size = n) : ¬ (j < 0 ∨ c.slots.size ≤ j.toNatClampNeg) ∧ j.toNatClampNeg = i := by
  have e : j.toNatClampNeg = i := by rw [← Int32.toNat_toInt, hj]; rfl
  refine ⟨?_, e⟩
  rw [e, r1, Int32.lt_iff_toInt_lt, hj]
  intro q
  rcases q with q | q
  · have : (0 : Int32).toInt = 0 := rfl
    omega
  · omega
theorem o_len {n : Nat} (h : n < 2147483648) : (n.toInt32).toInt = n := by
  have := len_toInt (n := n) (by omega)
  exact this
theorem o_arraylength (X : Stand p l e R s m args below meth c T locs cells slots) (K : OCx p s m meth c Z own nm bytes maxL ret) {a : Addr} {ty : FieldType} {n : Nat} {f : Nat → Value} (hd : decode bytes pc = .ok (.arraylength, 1)) (pc' : Nat) (hp : pc + 1 = pc') (eT : T.heap = h) (A : OAr Z h a ty n f) {v : Int32} (hv : v.toInt = n) (hr : OGo p e below s n0 Q kc ks (T.setTop (mkF m pc' Ls (.int v :: St)))) : OGo p e below s n0 Q kc ks (T.setTop (mkF m pc Ls (.ref a :: St))) := by
  subst hp
  obtain ⟨cl, A, r1, r2, -⟩ := A
  have e1 : cl.slots.size.toInt32 = v := by rw [← Int32.toInt_inj, hv, r1]; exact o_len r2
  refine OGo.st (fun t k => ?_) hr
  refine X.arraylength K.hx (g := mkF m pc Ls (.ref a :: St)) (by rw [eT]; exact A.1) (State.isArrayOf_alike K.hZ.alike A.2.1) rfl rfl (hb K.hby hd) t ?_
  rw [e1]
  exact k
theorem o_iaload (X : Stand p l e R s m args below meth c T locs cells slots) (K : OCx p s m meth c Z own nm bytes maxL ret) {a : Addr} {n i : Nat} {f : Nat → Value} {j : Int32} {v : Value} (hd : decode bytes pc = .ok (.iaload, 1)) (pc' : Nat) (hp : pc + 1 = pc') (eT : T.heap = h) (A : OAr Z h a .int n f) (hj : j.toInt = (i : Int)) (hi : i < n) (hv : f i = v) (hr : OGo p e below s n0 Q kc ks (T.setTop (mkF m pc' Ls (v :: St)))) : OGo p e below s n0 Q kc ks (T.setTop (mkF m pc Ls (.int j :: .ref a :: St))) := by
  subst hp
  obtain ⟨cl, A, r1, r2, r3, -⟩ := A
  obtain ⟨q1, q2⟩ := o_idx (c := cl) hj hi r1
  exact OGo.st (fun t k => X.iaload K.hx (g := mkF m pc Ls (.int j :: .ref a :: St)) (by rw [eT]; exact A.1) (State.isArrayOf_alike K.hZ.alike A.2.1) A.2.2 q1 (by rw [q2, r3 i hi, hv]) rfl rfl (hb K.hby hd) t k) hr
theorem o_laload (X : Stand p l e R s m args below meth c T locs cells slots) (K : OCx p s m meth c Z own nm bytes maxL ret) {a : Addr} {n i : Nat} {f : Nat → Value} {j : Int32} {v : Value} (hd : decode bytes pc = .ok (.laload, 1)) (pc' : Nat) (hp : pc + 1 = pc') (eT : T.heap = h) (A : OAr Z h a .long n f) (hj : j.toInt = (i : Int)) (hi : i < n) (hv : f i = v) (hr : OGo p e below s n0 Q kc ks (T.setTop (mkF m pc' Ls (v :: St)))) : OGo p e below s n0 Q kc ks (T.setTop (mkF m pc Ls (.int j :: .ref a :: St))) := by
  subst hp
  obtain ⟨cl, A, r1, r2, r3, -⟩ := A
  obtain ⟨q1, q2⟩ := o_idx (c := cl) hj hi r1
  exact OGo.st (fun t k => X.laload K.hx (g := mkF m pc Ls (.int j :: .ref a :: St)) (by rw [eT]; exact A.1) (State.isArrayOf_alike K.hZ.alike A.2.1) A.2.2 q1 (by rw [q2, r3 i hi, hv]) rfl rfl (hb K.hby hd) t k) hr
theorem o_caload (X : Stand p l e R s m args below meth c T locs cells slots) (K : OCx p s m meth c Z own nm bytes maxL ret) {a : Addr} {n i : Nat} {f : Nat → Value} {j : Int32} {v : Value} (hd : decode bytes pc = .ok (.caload, 1)) (pc' : Nat) (hp : pc + 1 = pc') (eT : T.heap = h) (A : OAr Z h a .char n f) (hj : j.toInt = (i : Int)) (hi : i < n) (hv : f i = v) (hr : OGo p e below s n0 Q kc ks (T.setTop (mkF m pc' Ls (v :: St)))) : OGo p e below s n0 Q kc ks (T.setTop (mkF m pc Ls (.int j :: .ref a :: St))) := by
  subst hp
  obtain ⟨cl, A, r1, r2, r3, -⟩ := A
  obtain ⟨q1, q2⟩ := o_idx (c := cl) hj hi r1
  exact OGo.st (fun t k => X.caload K.hx (g := mkF m pc Ls (.int j :: .ref a :: St)) (by rw [eT]; exact A.1) (State.isArrayOf_alike K.hZ.alike A.2.1) A.2.2 q1 (by rw [q2, r3 i hi, hv]) rfl rfl (hb K.hby hd) t k) hr
theorem o_saload (X : Stand p l e R s m args below meth c T locs cells slots) (K : OCx p s m meth c Z own nm bytes maxL ret) {a : Addr} {n i : Nat} {f : Nat → Value} {j : Int32} {v : Value} (hd : decode bytes pc = .ok (.saload, 1)) (pc' : Nat) (hp : pc + 1 = pc') (eT : T.heap = h) (A : OAr Z h a .short n f) (hj : j.toInt = (i : Int)) (hi : i < n) (hv : f i = v) (hr : OGo p e below s n0 Q kc ks (T.setTop (mkF m pc' Ls (v :: St)))) : OGo p e below s n0 Q kc ks (T.setTop (mkF m pc Ls (.int j :: .ref a :: St))) := by
  subst hp
  obtain ⟨cl, A, r1, r2, r3, -⟩ := A
  obtain ⟨q1, q2⟩ := o_idx (c := cl) hj hi r1
  exact OGo.st (fun t k => X.saload K.hx (g := mkF m pc Ls (.int j :: .ref a :: St)) (by rw [eT]; exact A.1) (State.isArrayOf_alike K.hZ.alike A.2.1) A.2.2 q1 (by rw [q2, r3 i hi, hv]) rfl rfl (hb K.hby hd) t k) hr
theorem o_baload (X : Stand p l e R s m args below meth c T locs cells slots) (K : OCx p s m meth c Z own nm bytes maxL ret) {a : Addr} {n i : Nat} {f : Nat → Value} {j : Int32} {v : Value} (hd : decode bytes pc = .ok (.baload, 1)) (pc' : Nat) (hp : pc + 1 = pc') (eT : T.heap = h) (A : OAr Z h a .byte n f) (hj : j.toInt = (i : Int)) (hi : i < n) (hv : f i = v) (hr : OGo p e below s n0 Q kc ks (T.setTop (mkF m pc' Ls (v :: St)))) : OGo p e below s n0 Q kc ks (T.setTop (mkF m pc Ls (.int j :: .ref a :: St))) := by
  subst hp
  obtain ⟨cl, A, r1, r2, r3, -⟩ := A
  obtain ⟨q1, q2⟩ := o_idx (c := cl) hj hi r1
  exact OGo.st (fun t k => X.baloadBytes K.hx (g := mkF m pc Ls (.int j :: .ref a :: St)) (by rw [eT]; exact A.1) (State.isArrayOf_alike K.hZ.alike A.2.1) A.2.2 q1 (by rw [q2, r3 i hi, hv]) rfl rfl (hb K.hby hd) t k) hr
theorem o_zaload (X : Stand p l e R s m args below meth c T locs cells slots) (K : OCx p s m meth c Z own nm bytes maxL ret) {a : Addr} {n i : Nat} {f : Nat → Value} {j : Int32} {v : Value} (hd : decode bytes pc = .ok (.baload, 1)) (pc' : Nat) (hp : pc + 1 = pc') (eT : T.heap = h) (A : OAr Z h a .boolean n f) (hj : j.toInt = (i : Int)) (hi : i < n) (hv : f i = v) (hr : OGo p e below s n0 Q kc ks (T.setTop (mkF m pc' Ls (v :: St)))) : OGo p e below s n0 Q kc ks (T.setTop (mkF m pc Ls (.int j :: .ref a :: St))) := by
  subst hp
  obtain ⟨cl, A, r1, r2, r3, -⟩ := A
  obtain ⟨q1, q2⟩ := o_idx (c := cl) hj hi r1
  exact OGo.st (fun t k => X.baloadBooleans K.hx (g := mkF m pc Ls (.int j :: .ref a :: St)) (by rw [eT]; exact A.1) (State.isArrayOf_alike K.hZ.alike A.2.1) A.2.2 q1 (by rw [q2, r3 i hi, hv]) rfl rfl (hb K.hby hd) t k) hr
theorem o_aaload (X : Stand p l e R s m args below meth c T locs cells slots) (K : OCx p s m meth c Z own nm bytes maxL ret) {a : Addr} {ty : FieldType} {n i : Nat} {f : Nat → Value} {j : Int32} {v : Value} (hd : decode bytes pc = .ok (.aaload, 1)) (pc' : Nat) (hp : pc + 1 = pc') (eT : T.heap = h) (A : OAr Z h a ty n f) (hty : ty.isReference = true) (hj : j.toInt = (i : Int)) (hi : i < n) (hv : f i = v) (hr : OGo p e below s n0 Q kc ks (T.setTop (mkF m pc' Ls (v :: St)))) : OGo p e below s n0 Q kc ks (T.setTop (mkF m pc Ls (.int j :: .ref a :: St))) := by
  subst hp
  obtain ⟨cl, A, r1, r2, r3, -⟩ := A
  obtain ⟨q1, q2⟩ := o_idx (c := cl) hj hi r1
  exact OGo.st (fun t k => X.aaload K.hx (g := mkF m pc Ls (.int j :: .ref a :: St)) (by rw [eT]; exact A.1) (State.isArrayOf_alike K.hZ.alike A.2.1) hty A.2.2 q1 (by rw [q2, r3 i hi, hv]) rfl rfl (hb K.hby hd) t k) hr
theorem o_bastore (X : Stand p l e R s m args below meth c T locs cells slots) (K : OCx p s m meth c Z own nm bytes maxL ret) {a : Addr} {n i : Nat} {f : Nat → Value} {j : Int32} {x x' : Int32} (hd : decode bytes pc = .ok (.bastore, 1)) (pc' : Nat) (hp : pc + 1 = pc') (eT : T.heap = h) (A : OAr Z h a .byte n f) (hj : j.toInt = (i : Int)) (hi : i < n) (hv : nar .byte x = x') (N : Fr n0 locs) (ge : n0 ≤ a)
    (hr : ∀ T' h' locs', Stand p l e R s m args below meth c T' locs' cells slots → T'.heap = h' → Wr h h' a i (.int x') → OAr Z h' a .byte n (fun q => if q = i then (.int x') else f q) → Fr n0 locs' → OGo p e below s n0 Q kc ks (T'.setTop (mkF m pc' Ls St))) : OGo p e below s n0 Q kc ks (T.setTop (mkF m pc Ls (.int x :: .int j :: .ref a :: St))) := by
  subst hp hv
  obtain ⟨cl, B, r1, r2, r3, -⟩ := id A
  obtain ⟨q1, q2⟩ := o_idx (c := cl) hj hi r1
  obtain ⟨T', h', X', e', W', st'⟩ := stB X K.hx K.hZ eT B q1 (g := mkF m pc Ls (.int x :: .int j :: .ref a :: St)) rfl rfl (hb K.hby hd)
  have N' := Fr.snoc X' N ge
  rw [q2] at W'
  exact OGo.st st' (hr T' h' _ X' e' W' (A.same W' (fits_nar_byte x)) N')
theorem o_castore (X : Stand p l e R s m args below meth c T locs cells slots) (K : OCx p s m meth c Z own nm bytes maxL ret) {a : Addr} {n i : Nat} {f : Nat → Value} {j : Int32} {x x' : Int32} (hd : decode bytes pc = .ok (.castore, 1)) (pc' : Nat) (hp : pc + 1 = pc') (eT : T.heap = h) (A : OAr Z h a .char n f) (hj : j.toInt = (i : Int)) (hi : i < n) (hv : nar .char x = x') (N : Fr n0 locs) (ge : n0 ≤ a)
    (hr : ∀ T' h' locs', Stand p l e R s m args below meth c T' locs' cells slots → T'.heap = h' → Wr h h' a i (.int x') → OAr Z h' a .char n (fun q => if q = i then (.int x') else f q) → Fr n0 locs' → OGo p e below s n0 Q kc ks (T'.setTop (mkF m pc' Ls St))) : OGo p e below s n0 Q kc ks (T.setTop (mkF m pc Ls (.int x :: .int j :: .ref a :: St))) := by
  subst hp hv
  obtain ⟨cl, B, r1, r2, r3, -⟩ := id A
  obtain ⟨q1, q2⟩ := o_idx (c := cl) hj hi r1
  obtain ⟨T', h', X', e', W', st'⟩ := stC X K.hx K.hZ eT B q1 (g := mkF m pc Ls (.int x :: .int j :: .ref a :: St)) rfl rfl (hb K.hby hd)
  have N' := Fr.snoc X' N ge
  rw [q2] at W'
  exact OGo.st st' (hr T' h' _ X' e' W' (A.same W' (fits_nar_char x)) N')
theorem o_sastore (X : Stand p l e R s m args below meth c T locs cells slots) (K : OCx p s m meth c Z own nm bytes maxL ret) {a : Addr} {n i : Nat} {f : Nat → Value} {j : Int32} {x x' : Int32} (hd : decode bytes pc = .ok (.sastore, 1)) (pc' : Nat) (hp : pc + 1 = pc') (eT : T.heap = h) (A : OAr Z h a .short n f) (hj : j.toInt = (i : Int)) (hi : i < n) (hv : nar .short x = x') (N : Fr n0 locs) (ge : n0 ≤ a)
    (hr : ∀ T' h' locs', Stand p l e R s m args below meth c T' locs' cells slots → T'.heap = h' → Wr h h' a i (.int x') → OAr Z h' a .short n (fun q => if q = i then (.int x') else f q) → Fr n0 locs' → OGo p e below s n0 Q kc ks (T'.setTop (mkF m pc' Ls St))) : OGo p e below s n0 Q kc ks (T.setTop (mkF m pc Ls (.int x :: .int j :: .ref a :: St))) := by
  subst hp hv
  obtain ⟨cl, B, r1, r2, r3, -⟩ := id A
  obtain ⟨q1, q2⟩ := o_idx (c := cl) hj hi r1
  obtain ⟨T', h', X', e', W', st'⟩ := stS X K.hx K.hZ eT B q1 (g := mkF m pc Ls (.int x :: .int j :: .ref a :: St)) rfl rfl (hb K.hby hd)
  have N' := Fr.snoc X' N ge
  rw [q2] at W'
  exact OGo.st st' (hr T' h' _ X' e' W' (A.same W' (fits_nar_short x)) N')
theorem o_zastore (X : Stand p l e R s m args below meth c T locs cells slots) (K : OCx p s m meth c Z own nm bytes maxL ret) {a : Addr} {n i : Nat} {f : Nat → Value} {j : Int32} {x x' : Int32} (hd : decode bytes pc = .ok (.bastore, 1)) (pc' : Nat) (hp : pc + 1 = pc') (eT : T.heap = h) (A : OAr Z h a .boolean n f) (hj : j.toInt = (i : Int)) (hi : i < n) (hv : nar .boolean x = x') (N : Fr n0 locs) (ge : n0 ≤ a)
    (hr : ∀ T' h' locs', Stand p l e R s m args below meth c T' locs' cells slots → T'.heap = h' → Wr h h' a i (.int x') → OAr Z h' a .boolean n (fun q => if q = i then (.int x') else f q) → Fr n0 locs' → OGo p e below s n0 Q kc ks (T'.setTop (mkF m pc' Ls St))) : OGo p e below s n0 Q kc ks (T.setTop (mkF m pc Ls (.int x :: .int j :: .ref a :: St))) := by
  subst hp hv
  obtain ⟨cl, B, r1, r2, r3, -⟩ := id A
  obtain ⟨q1, q2⟩ := o_idx (c := cl) hj hi r1
  obtain ⟨T', h', X', e', W', st'⟩ := stZ X K.hx K.hZ eT B q1 (g := mkF m pc Ls (.int x :: .int j :: .ref a :: St)) rfl rfl (hb K.hby hd)
  have N' := Fr.snoc X' N ge
  rw [q2] at W'
  exact OGo.st st' (hr T' h' _ X' e' W' (A.same W' (fits_nar_bool x)) N')
theorem o_iastore (X : Stand p l e R s m args below meth c T locs cells slots) (K : OCx p s m meth c Z own nm bytes maxL ret) {a : Addr} {n i : Nat} {f : Nat → Value} {j : Int32} {x x' : Int32} (hd : decode bytes pc = .ok (.iastore, 1)) (pc' : Nat) (hp : pc + 1 = pc') (eT : T.heap = h) (A : OAr Z h a .int n f) (hj : j.toInt = (i : Int)) (hi : i < n) (hv : x = x') (N : Fr n0 locs) (ge : n0 ≤ a)
    (hr : ∀ T' h' locs', Stand p l e R s m args below meth c T' locs' cells slots → T'.heap = h' → Wr h h' a i (.int x') → OAr Z h' a .int n (fun q => if q = i then (.int x') else f q) → Fr n0 locs' → OGo p e below s n0 Q kc ks (T'.setTop (mkF m pc' Ls St))) : OGo p e below s n0 Q kc ks (T.setTop (mkF m pc Ls (.int x :: .int j :: .ref a :: St))) := by
  subst hp hv
  obtain ⟨cl, B, r1, r2, r3, -⟩ := id A
  obtain ⟨q1, q2⟩ := o_idx (c := cl) hj hi r1
  obtain ⟨T', h', X', e', W', st'⟩ := stI X K.hx K.hZ eT B q1 (g := mkF m pc Ls (.int x :: .int j :: .ref a :: St)) rfl rfl (hb K.hby hd)
  have N' := Fr.snoc X' N ge
  rw [q2] at W'
  exact OGo.st st' (hr T' h' _ X' e' W' (A.same W' (rfl)) N')
theorem o_lastore (X : Stand p l e R s m args below meth c T locs cells slots) (K : OCx p s m meth c Z own nm bytes maxL ret) {a : Addr} {n i : Nat} {f : Nat → Value} {j : Int32} {x x' : Int64} (hd : decode bytes pc = .ok (.lastore, 1)) (pc' : Nat) (hp : pc + 1 = pc') (eT : T.heap = h) (A : OAr Z h a .long n f) (hj : j.toInt = (i : Int)) (hi : i < n) (hv : x = x') (N : Fr n0 locs) (ge : n0 ≤ a)
    (hr : ∀ T' h' locs', Stand p l e R s m args below meth c T' locs' cells slots → T'.heap = h' → Wr h h' a i (.long x') → OAr Z h' a .long n (fun q => if q = i then (.long x') else f q) → Fr n0 locs' → OGo p e below s n0 Q kc ks (T'.setTop (mkF m pc' Ls St))) : OGo p e below s n0 Q kc ks (T.setTop (mkF m pc Ls (.long x :: .int j :: .ref a :: St))) := by
  subst hp hv
  obtain ⟨cl, B, r1, r2, r3, -⟩ := id A
  obtain ⟨q1, q2⟩ := o_idx (c := cl) hj hi r1
  obtain ⟨T', h', X', e', W', st'⟩ := stJ X K.hx K.hZ eT B q1 (g := mkF m pc Ls (.long x :: .int j :: .ref a :: St)) rfl rfl (hb K.hby hd)
  have N' := Fr.snoc X' N ge
  rw [q2] at W'
  exact OGo.st st' (hr T' h' _ X' e' W' (A.same W' (rfl)) N')
theorem o_newarray (X : Stand p l e R s m args below meth c T locs cells slots) (K : OCx p s m meth c Z own nm bytes maxL ret) {aty : ArrayType} {z : Int32} {n : Nat} (hd : decode bytes pc = .ok (.newarray aty, 2)) (pc' : Nat) (hp : pc + 2 = pc') (w : (Jvm.Cond.arrayClass (newarray.typeOf aty)).before a0 Z = true) (eT : T.heap = h) (hz : z.toInt = (n : Int)) (cap : Nat) (hcap : n ≤ cap) (hb8 : cap * 8 ≤ 536870912) (hc : cells + 1 ≤ R.cells) (hl : slots + cap ≤ R.slots)
    (hdv : fits (newarray.typeOf aty) (defaultValue (newarray.typeOf aty)) = true)
    (hr : ∀ T' h' a, a = h.size → Stand p l e R s m args below meth c T' locs (cells + 1) (slots + cap) → T'.heap = h' → Ext h h' → OAr Z h' a (newarray.typeOf aty) n (fun _ => defaultValue (newarray.typeOf aty)) → OGo p e below s n0 Q kc ks (T'.setTop (mkF m pc' Ls (.ref a :: St)))) : OGo p e below s n0 Q kc ks (T.setTop (mkF m pc Ls (.int z :: St))) := by
  subst hp
  have e1 : z.toNatClampNeg = n := by rw [← Int32.toNat_toInt, hz]; rfl
  have hneg : ¬ z < 0 := by
    rw [Int32.lt_iff_toInt_lt, hz]
    have : (0 : Int32).toInt = 0 := rfl
    omega
  obtain ⟨T', h', cA, X', e', E', A', st'⟩ := newP X K.hx K.hZ w eT (g := mkF m pc Ls (.int z :: St)) rfl (hb K.hby hd) rfl hneg (cap := cap) (by omega) hb8 hc hl
  refine OGo.st st' (hr T' h' _ rfl X' e' E' ⟨_, A', (sz_new _ _ _).trans e1, ?_, fun j hj => ?_, fun j _ => hdv⟩)
  · have := (rng32 z).2
    omega
  · simp [newA, e1, hj]
theorem o_anewarray (X : Stand p l e R s m args below meth c T locs cells slots) (K : OCx p s m meth c Z own nm bytes maxL ret) {C : String} {index : Nat} {z : Int32} {n : Nat} (hd : decode bytes pc = .ok (.anewarray index, 3)) (pc' : Nat) (hp : pc + 3 = pc') (w1 : (Jvm.Cond.classLink own index C).before a0 Z = true) (w2 : (Jvm.Cond.arrayOver (.object C)).before a0 Z = true) (eT : T.heap = h) (hz : z.toInt = (n : Int)) (cap : Nat) (hcap : n ≤ cap) (hb8 : cap * 8 ≤ 536870912) (hc : cells + 1 ≤ R.cells) (hl : slots + cap ≤ R.slots)
    (hr : ∀ T' h' a, a = h.size → Stand p l e R s m args below meth c T' locs (cells + 1) (slots + cap) → T'.heap = h' → Ext h h' → OAr Z h' a (.object C) n (fun _ => .null) → (∃ cl : Cell, h'[a]? = some cl ∧ Ovr Z cl.cls C) → OGo p e below s n0 Q kc ks (T'.setTop (mkF m pc' Ls (.ref a :: St)))) : OGo p e below s n0 Q kc ks (T.setTop (mkF m pc Ls (.int z :: St))) := by
  subst hp
  have e1 : z.toNatClampNeg = n := by rw [← Int32.toNat_toInt, hz]; rfl
  have hneg : ¬ z < 0 := by
    rw [Int32.lt_iff_toInt_lt, hz]
    have : (0 : Int32).toInt = 0 := rfl
    omega
  obtain ⟨T', h', cA, X', e', E', A', O', st'⟩ := newR X K.hx K.hZ K.hown w1 w2 eT (g := mkF m pc Ls (.int z :: St)) rfl (hb K.hby hd) rfl hneg (cap := cap) (by omega) hb8 hc hl
  refine OGo.st st' (hr T' h' _ rfl X' e' E' ⟨_, A', (sz_new _ _ _).trans e1, ?_, fun j hj => ?_, fun j _ => rfl⟩ ⟨_, A'.1, O'⟩)
  · have := (rng32 z).2
    omega
  · simp [newA, e1, hj, defaultValue]
theorem o_new (X : Stand p l e R s m args below meth c T locs cells slots) (K : OCx p s m meth c Z own nm bytes maxL ret) {C : String} {index k : Nat} (hd : decode bytes pc = .ok (.new index, 3)) (pc' : Nat) (hp : pc + 3 = pc') (w : (Jvm.Cond.classLink own index C).before a0 Z = true) (wi : (Jvm.Cond.instantiable C k).before a0 Z = true) (wz : (Jvm.Cond.initialized C).before a0 Z = true) (eT : T.heap = h) (hc : cells + 1 ≤ R.cells) (hl : slots + k ≤ R.slots)
    (hr : ∀ T' h' a, a = h.size → Stand p l e R s m args below meth c T' locs (cells + 1) (slots + k) → T'.heap = h' → Ext h h' → Exa Z h' a C → (∀ {O nm d : String} {ty : FieldType}, Laid Z a0 C O nm d → parseFieldDescriptor d = some ty → Fld Z h' a O nm d (defaultValue ty)) → OGo p e below s n0 Q kc ks (T'.setTop (mkF m pc' Ls (.ref a :: St)))) : OGo p e below s n0 Q kc ks (T.setTop (mkF m pc Ls St)) := by
  subst hp
  obtain ⟨T', h', X', e', E', A', D', -, st'⟩ := newO X K.hx K.hZ K.hown w wi wz eT (g := mkF m pc Ls St) rfl (hb K.hby hd) hc hl
  exact OGo.st st' (hr T' h' _ rfl X' e' E' A' D')
theorem o_initO (X : Stand p l e R s m args below meth c T locs cells slots) (K : OCx p s m meth c Z own nm bytes maxL ret) {idx : Nat} {a : Addr} (hd : decode bytes pc = .ok (.invokespecial idx, 3)) (pc' : Nat) (hp : pc + 3 = pc') (w1 : (Jvm.Cond.methodLink own idx Lib.objectInit).before a0 Z = true) (w2 : (Jvm.Cond.instanceMethod Lib.objectInit).before a0 Z = true) (w3 : (Jvm.Cond.code Lib.objectInit ⟨#[0xb1]⟩ 1 none).before a0 Z = true) (eT : T.heap = h) (hsz : Ls.size = maxL)
    (hf : 1 ≤ R.frames) (W : Nat) (hW : (St.map fun v => v.category).sum ≤ W) (hl : W + 12 ≤ R.locals) (hr : ∀ T', Stand p l e R s m args below meth c T' locs cells slots → T'.heap = h → OGo p e below s n0 Q kc ks (T'.setTop (mkF m pc' Ls St))) : OGo p e below s n0 Q kc ks (T.setTop (mkF m pc Ls (.ref a :: St))) := by
  subst hp
  obtain ⟨T', X', e', st'⟩ := initO X K.hx K.hZ K.hown w1 w2 w3 eT (g := mkF m pc Ls (.ref a :: St)) rfl (by rw [K.hml]; exact hsz) rfl (hb K.hby hd) hf (W := W) (by show 2 * 0 + _ ≤ _; omega) hl
  exact OGo.st st' (hr T' X' e')
theorem o_getfield (X : Stand p l e R s m args below meth c T locs cells slots) (K : OCx p s m meth c Z own nm bytes maxL ret) {index : Nat} {R0 O n d host : String} {a : Addr} {v : Value} (hd : decode bytes pc = .ok (.getfield index, 3)) (pc' : Nat) (hp : pc + 3 = pc') (w : (Jvm.Cond.fieldLink own index R0 n d).before a0 Z = true ∨ (Jvm.Cond.fieldLinkNest own index R0 n d host).before a0 Z = true) (via : Via Z R0 O n d) (eT : T.heap = h) (F : Fld Z h a O n d v)
    (hr : ∀ T', Stand p l e R s m args below meth c T' locs cells slots → T'.heap = h → OGo p e below s n0 Q kc ks (T'.setTop (mkF m pc' Ls (v :: St)))) : OGo p e below s n0 Q kc ks (T.setTop (mkF m pc Ls (.ref a :: St))) := by
  subst hp
  obtain ⟨T', X', e', st'⟩ := getF X K.hx K.hZ K.hown w via eT F (g := mkF m pc Ls (.ref a :: St)) rfl rfl (hb K.hby hd)
  exact OGo.st st' (hr T' X' e')
theorem o_getstatic (X : Stand p l e R s m args below meth c T locs cells slots) (K : OCx p s m meth c Z own nm bytes maxL ret) {index : Nat} {R0 O n d host : String} {v : Value} (hd : decode bytes pc = .ok (.getstatic index, 3)) (pc' : Nat) (hp : pc + 3 = pc') (w : (Jvm.Cond.fieldLink own index R0 n d).before a0 Z = true ∨ (Jvm.Cond.fieldLinkNest own index R0 n d host).before a0 Z = true) (via : Via Z R0 O n d) (eT : T.heap = h) (F : Sta Z h O n d v)
    (hr : ∀ T', Stand p l e R s m args below meth c T' locs cells slots → T'.heap = h → OGo p e below s n0 Q kc ks (T'.setTop (mkF m pc' Ls (v :: St)))) : OGo p e below s n0 Q kc ks (T.setTop (mkF m pc Ls St)) := by
  subst hp
  obtain ⟨T', X', e', st'⟩ := getS2 X K.hx K.hZ K.hown w via eT F (g := mkF m pc Ls St) rfl (hb K.hby hd)
  exact OGo.st st' (hr T' X' e')
theorem o_putfield (X : Stand p l e R s m args below meth c T locs cells slots) (K : OCx p s m meth c Z own nm bytes maxL ret) {index kk : Nat} {R0 O n d host C : String} {a : Addr} {v old : Value} {ty : FieldType} (hd : decode bytes pc = .ok (.putfield index, 3)) (pc' : Nat) (hp : pc + 3 = pc') (w : (Jvm.Cond.fieldLink own index R0 n d).before a0 Z = true ∨ (Jvm.Cond.fieldLinkNest own index R0 n d host).before a0 Z = true) (via : Via Z R0 O n d) (eT : T.heap = h) (F : Fld Z h a O n d old) (E : Exa Z h a C)
    (L : (Jvm.Cond.lays C O n d).before a0 Z = true ∨ ((Jvm.Cond.laysFinal C O n d).before a0 Z = true ∧ own = O ∧ nm = "<init>")) (wi : (Jvm.Cond.instantiable C kk).before a0 Z = true) (hty : parseFieldDescriptor d = some ty) (hn : narrow ty v = v) (hf : fits ty v = true) (N : Fr n0 locs) (ge : n0 ≤ a)
    (hr : ∀ T' h' locs', Stand p l e R s m args below meth c T' locs' cells slots → T'.heap = h' → Wr h h' a (Jvm.RoadKit.slotOf Z O n d) v → Fr n0 locs' → OGo p e below s n0 Q kc ks (T'.setTop (mkF m pc' Ls St))) : OGo p e below s n0 Q kc ks (T.setTop (mkF m pc Ls (v :: .ref a :: St))) := by
  subst hp
  obtain ⟨T', h', X', e', W', st'⟩ := putF X K.hx K.hZ K.hown w via eT F E (L.imp id fun q => ⟨q.1, q.2.1, K.hnm.trans q.2.2⟩) wi hty hn hf (g := mkF m pc Ls (v :: .ref a :: St)) rfl rfl (hb K.hby hd)
  exact OGo.st st' (hr T' h' _ X' e' W' (Fr.snoc X' N ge))
theorem o_putfieldN (X : Stand p l e R s m args below meth c T locs cells slots) (K : OCx p s m meth c Z own nm bytes maxL ret) {index kk : Nat} {R0 O n d C : String} {a : Addr} {v v' old : Value} {ty : FieldType} (hd : decode bytes pc = .ok (.putfield index, 3)) (pc' : Nat) (hp : pc + 3 = pc') (w : (Jvm.Cond.fieldLink own index R0 n d).before a0 Z = true) (via : Via Z R0 O n d) (eT : T.heap = h) (F : Fld Z h a O n d old) (E : Exa Z h a C)
    (L : (Jvm.Cond.lays C O n d).before a0 Z = true ∨ ((Jvm.Cond.laysFinal C O n d).before a0 Z = true ∧ own = O ∧ nm = "<init>")) (wi : (Jvm.Cond.instantiable C kk).before a0 Z = true) (hty : parseFieldDescriptor d = some ty) (hn : narrow ty v = v') (hf : fits ty v' = true) (N : Fr n0 locs) (ge : n0 ≤ a)
    (hr : ∀ T' h' locs', Stand p l e R s m args below meth c T' locs' cells slots → T'.heap = h' → Wr h h' a (Jvm.RoadKit.slotOf Z O n d) v' → Fr n0 locs' → OGo p e below s n0 Q kc ks (T'.setTop (mkF m pc' Ls St))) : OGo p e below s n0 Q kc ks (T.setTop (mkF m pc Ls (v :: .ref a :: St))) := by
  subst hp
  obtain ⟨T', h', X', e', W', st'⟩ := putFN X K.hx K.hZ K.hown w via eT F E (L.imp id fun q => ⟨q.1, q.2.1, K.hnm.trans q.2.2⟩) wi hty hn hf (g := mkF m pc Ls (v :: .ref a :: St)) rfl rfl (hb K.hby hd)
  exact OGo.st st' (hr T' h' _ X' e' W' (Fr.snoc X' N ge))
theorem o_invokestatic (X : Stand p l e R s m args below meth c T locs cells slots) (K : OCx p s m meth c Z own nm bytes maxL ret) {index : Nat} {y : MethodName} {bytes' : ByteArray} {maxL' : Nat} {ret' : Option FieldType} {rm : Room} {Q' : Option Value → Heap → Prop} (hd : decode bytes pc = .ok (.invokestatic index, 3)) (pc' : Nat) (hp : pc + 3 = pc') (w1 : (Jvm.Cond.methodLink own index y).before a0 Z = true) (w2 : (Jvm.Cond.static y).before a0 Z = true) (w3 : (Jvm.Cond.initialized y.cls).before a0 Z = true) (w4 : (Jvm.Cond.code y bytes' maxL' ret').before a0 Z = true) (hy : y.cls ≠ "java/lang/invoke/MethodHandle" ∧ y.cls ≠ "java/lang/invoke/VarHandle")
    (argsL rest : List Value) (hst : St = argsL.reverse ++ rest) (con : OCon l Z n0 y bytes' maxL' ret' rm argsL.toArray h Q') (eT : T.heap = h) (hsz : Ls.size = maxL) (hlen : ∀ sig, parseMethodDescriptor y.desc = some sig → argsL.length = sig.parameters.length) (hf : rm.frames + 1 ≤ R.frames) (W : Nat) (hW : (rest.map fun v => v.category).sum ≤ W) (hlo : W + (maxL' + 11) + rm.locals ≤ R.locals) (hc : cells + rm.cells ≤ R.cells) (hs : slots + rm.slots ≤ R.slots) (N : Fr n0 locs)
    (hr : ∀ v T' h' locs', Stand p l e R s m args below meth c T' locs' (cells + rm.cells) (slots + rm.slots) → T'.heap = h' → Q' v h' → Fr n0 locs' → OGo p e below s n0 Q kc ks (T'.setTop (mkF m pc' Ls (v.toList ++ rest)))) : OGo p e below s n0 Q kc ks (T.setTop (mkF m pc Ls St)) := by
  subst hp hst
  obtain ⟨v, vm₁, ⟨T', L', k', n'⟩, -, X', ⟨Lc, ⟨hQ, hF⟩, l1, y1, z1⟩, st⟩ := Jvm.LawKit.callS X K.hx K.hown (mvT K.hZ w1) (mvT K.hZ w2) (mvT K.hZ w3) (mvT K.hZ w4) hy (backOf (W := W) (Q := fun v h L => Q' v h ∧ Fr n0 L) (con []) K.hZ w4 w3 hf hlo) (g := mkF m pc Ls (argsL.reverse ++ rest)) rfl (by rw [K.hml]; exact hsz) (argsL := argsL) (rest := rest) hlen rfl (by show 2 * 0 + _ ≤ _; omega) (hb K.hby hd) (fun _ _ => ⟨rfl, eT, hc, hs⟩)
  dsimp only [Pt.U, Pt.locs, Pt.cells, Pt.slots] at X' l1 y1 z1 st hQ
  subst l1 y1 z1
  exact OGo.st st (hr v T' _ _ X' rfl hQ (Fr.app N hF))
theorem o_invokespecial (X : Stand p l e R s m args below meth c T locs cells slots) (K : OCx p s m meth c Z own nm bytes maxL ret) {index : Nat} {y : MethodName} {bytes' : ByteArray} {maxL' : Nat} {rm : Room} {Q' : Option Value → Heap → Prop} {a : Addr} (hd : decode bytes pc = .ok (.invokespecial index, 3)) (pc' : Nat) (hp : pc + 3 = pc') (hy1 : y.name = "<init>") (w1 : (Jvm.Cond.methodLink own index y).before a0 Z = true) (w2 : (Jvm.Cond.instanceMethod y).before a0 Z = true) (w3 : (Jvm.Cond.initialized y.cls).before a0 Z = true) (w4 : (Jvm.Cond.code y bytes' maxL' none).before a0 Z = true) (hy : y.cls ≠ "java/lang/invoke/MethodHandle" ∧ y.cls ≠ "java/lang/invoke/VarHandle")
    (argsL rest : List Value) (hst : St = argsL.reverse ++ .ref a :: rest) (con : OCon l Z n0 y bytes' maxL' none rm (.ref a :: argsL).toArray h Q') (eT : T.heap = h) (hsz : Ls.size = maxL) (hlen : ∀ sig, parseMethodDescriptor y.desc = some sig → argsL.length = sig.parameters.length) (hf : rm.frames + 1 ≤ R.frames) (W : Nat) (hW : (rest.map fun v => v.category).sum ≤ W) (hlo : W + (maxL' + 11) + rm.locals ≤ R.locals) (hc : cells + rm.cells ≤ R.cells) (hs : slots + rm.slots ≤ R.slots) (N : Fr n0 locs)
    (hr : ∀ v T' h' locs', Stand p l e R s m args below meth c T' locs' (cells + rm.cells) (slots + rm.slots) → T'.heap = h' → Q' v h' → Fr n0 locs' → OGo p e below s n0 Q kc ks (T'.setTop (mkF m pc' Ls (v.toList ++ rest)))) : OGo p e below s n0 Q kc ks (T.setTop (mkF m pc Ls St)) := by
  subst hp hst
  obtain ⟨v, vm₁, ⟨T', L', k', n'⟩, -, X', ⟨Lc, ⟨hQ, hF⟩, l1, y1, z1⟩, st⟩ := X.specialBack K.hx hy1 K.hown (mvT K.hZ w1) (mvT K.hZ w2) (mvT K.hZ w4) hy (backOf (W := W) (Q := fun v h L => Q' v h ∧ Fr n0 L) (con []) K.hZ w4 w3 hf hlo) (g := mkF m pc Ls (argsL.reverse ++ .ref a :: rest)) rfl (by rw [K.hml]; exact hsz) (Steps.refl _) (argsL := argsL) (rest := rest) hlen rfl (by show 2 * 0 + _ ≤ _; omega) (hb K.hby hd) (fun _ _ => ⟨rfl, eT, hc, hs⟩)
  dsimp only [Pt.U, Pt.locs, Pt.cells, Pt.slots] at X' l1 y1 z1 st hQ
  subst l1 y1 z1
  exact OGo.st (fun t k => st.trans k) (hr v T' _ _ X' rfl hQ (Fr.app N hF))
theorem o_invokevirtual (X : Stand p l e R s m args below meth c T locs cells slots) (K : OCx p s m meth c Z own nm bytes maxL ret) {index : Nat} {y : MethodName} {bytes' : ByteArray} {maxL' : Nat} {ret' : Option FieldType} {rm : Room} {Q' : Option Value → Heap → Prop} {C : String} {a : Addr} (hd : decode bytes pc = .ok (.invokevirtual index, 3)) (pc' : Nat) (hp : pc + 3 = pc') (w1 : (Jvm.Cond.methodLink own index y).before a0 Z = true) (w2 : (Jvm.Cond.declares y).before a0 Z = true) (wsel : (Jvm.Cond.selects C y y).before a0 Z = true) (w5 : (Jvm.Cond.instanceMethod y).before a0 Z = true) (w3 : (Jvm.Cond.initialized y.cls).before a0 Z = true) (w4 : (Jvm.Cond.code y bytes' maxL' ret').before a0 Z = true) (hy : y.cls ≠ "java/lang/invoke/MethodHandle" ∧ y.cls ≠ "java/lang/invoke/VarHandle")
    (E : Exa Z h a C) (argsL rest : List Value) (hst : St = argsL.reverse ++ .ref a :: rest) (con : OCon l Z n0 y bytes' maxL' ret' rm (.ref a :: argsL).toArray h Q') (eT : T.heap = h) (hsz : Ls.size = maxL) (hlen : ∀ sig, parseMethodDescriptor y.desc = some sig → argsL.length = sig.parameters.length) (hf : rm.frames + 1 ≤ R.frames) (W : Nat) (hW : (rest.map fun v => v.category).sum ≤ W) (hlo : W + (maxL' + 11) + rm.locals ≤ R.locals) (hc : cells + rm.cells ≤ R.cells) (hs : slots + rm.slots ≤ R.slots) (N : Fr n0 locs)
    (hr : ∀ v T' h' locs', Stand p l e R s m args below meth c T' locs' (cells + rm.cells) (slots + rm.slots) → T'.heap = h' → Q' v h' → Fr n0 locs' → OGo p e below s n0 Q kc ks (T'.setTop (mkF m pc' Ls (v.toList ++ rest)))) : OGo p e below s n0 Q kc ks (T.setTop (mkF m pc Ls St)) := by
  subst hp hst
  obtain ⟨cq, kq, qa, qb, qc⟩ := isOf K.hZ eT E
  obtain ⟨v, vm₁, ⟨T', L', k', n'⟩, -, X', ⟨Lc, ⟨hQ, hF⟩, l1, y1, z1⟩, st⟩ := X.virtualBack K.hx K.hown (mvT K.hZ w1) (mvT K.hZ w2) (notFace_of_selects (args := #[]) (mvT K.hZ wsel)) (mvT K.hZ wsel) (mvT K.hZ w5) hy (backOf (W := W) (Q := fun v h L => Q' v h ∧ Fr n0 L) (con []) K.hZ w4 w3 hf hlo) qa qc (g := mkF m pc Ls (argsL.reverse ++ .ref a :: rest)) rfl (by rw [K.hml]; exact hsz) (Steps.refl _) (argsL := argsL) (rest := rest) hlen rfl (by show 2 * 0 + _ ≤ _; omega) (hb K.hby hd) (fun _ _ => ⟨rfl, eT, hc, hs⟩)
  dsimp only [Pt.U, Pt.locs, Pt.cells, Pt.slots] at X' l1 y1 z1 st hQ
  subst l1 y1 z1
  exact OGo.st (fun t k => st.trans k) (hr v T' _ _ X' rfl hQ (Fr.app N hF))
theorem o_nb (x : Int32) : nar .byte (x.toInt8.toInt32) = x.toInt8.toInt32 := by
  show x.toInt8.toInt32.toInt8.toInt32 = _
  simp
theorem o_join {α : Type} (F : α → State) (P : α → Prop) {S : State} (hgo : (∀ b, P b → OGo p e below s n0 Q kc ks (F b)) → OGo p e below s n0 Q kc ks S) (hrest : ∀ b, P b → OGo p e below s n0 Q kc ks (F b)) : OGo p e below s n0 Q kc ks S := hgo hrest
theorem o_ind {α : Type} (F : α → State) (Inv : Nat → α → Prop) (hz : ∀ a, Inv 0 a → OGo p e below s n0 Q kc ks (F a)) (hs : ∀ d, (∀ a, Inv d a → OGo p e below s n0 Q kc ks (F a)) → ∀ a, Inv (d + 1) a → OGo p e below s n0 Q kc ks (F a)) (d : Nat) (a : α) (i : Inv d a) : OGo p e below s n0 Q kc ks (F a) := by
  induction d generalizing a with
  | zero => exact hz a i
  | succ d ih => exact hs d ih a i
theorem o_sta_keep {C n d : String} {v : Value} {ws : List Addr} (F : Sta Z h C n d v) (k : Keep h h' ws) (q : ∀ x ∈ ws, ∀ cell : Cell, h[x]? = some cell → cell.vm.isStatics = false) : Sta Z h' C n d v := by
  obtain ⟨cf, i, kk, f, st, cell, h1, h2, h3, h4, h5, h6, h7⟩ := F
  refine ⟨cf, i, kk, f, st, cell, h1, h2, h3, h4, k.2.1 _ _ h5 (fun z => ?_), h6, h7⟩
  rw [q st z cell h5] at h6
  cases h6
abbrev OW (Z : State) (a0 : Array Value) : Prop := ∀ d ∈ tables_1, d.before a0 Z = true
end Own
set_option maxRecDepth 65536
theorem w_0 {Z : State} {a0 : Array Value} (hw : OW Z a0) : (Jvm.Cond.methodLink "com/example/dhole/dhole/event/EventTimeUsualNanosPinLaw" (13 : Nat) ({ cls := "com/example/dhole/dhole/event/EventTimeUsualNanosPinLaw", name := "draw", desc := "(JJII)B" } : Jvm.MethodName)).before a0 Z = true := hw _ (List.mem_of_getElem? (i := 0) rfl)
theorem w_1 {Z : State} {a0 : Array Value} (hw : OW Z a0) : (Jvm.Cond.static ({ cls := "com/example/dhole/dhole/event/EventTimeUsualNanosPinLaw", name := "draw", desc := "(JJII)B" } : Jvm.MethodName)).before a0 Z = true := hw _ (List.mem_of_getElem? (i := 1) rfl)
theorem w_2 {Z : State} {a0 : Array Value} (hw : OW Z a0) : (Jvm.Cond.initialized "com/example/dhole/dhole/event/EventTimeUsualNanosPinLaw").before a0 Z = true := hw _ (List.mem_of_getElem? (i := 2) rfl)
theorem w_3 {Z : State} {a0 : Array Value} (hw : OW Z a0) : (Jvm.Cond.code ({ cls := "com/example/dhole/dhole/event/EventTimeUsualNanosPinLaw", name := "draw", desc := "(JJII)B" } : Jvm.MethodName) method_5_code (7 : Nat) (Option.some Jvm.ClassFile.FieldType.byte)).before a0 Z = true := hw _ (List.mem_of_getElem? (i := 3) rfl)
theorem w_4 {Z : State} {a0 : Array Value} (hw : OW Z a0) : (Jvm.Cond.methodLink "com/example/dhole/dhole/event/EventTimeUsualNanosPinLaw" (7 : Nat) ({ cls := "com/example/dhole/dhole/event/EventTimeUsualNanosPinLaw", name := "raw", desc := "(JJI)B" } : Jvm.MethodName)).before a0 Z = true := hw _ (List.mem_of_getElem? (i := 4) rfl)
theorem w_5 {Z : State} {a0 : Array Value} (hw : OW Z a0) : (Jvm.Cond.static ({ cls := "com/example/dhole/dhole/event/EventTimeUsualNanosPinLaw", name := "raw", desc := "(JJI)B" } : Jvm.MethodName)).before a0 Z = true := hw _ (List.mem_of_getElem? (i := 5) rfl)
theorem w_6 {Z : State} {a0 : Array Value} (hw : OW Z a0) : (Jvm.Cond.code ({ cls := "com/example/dhole/dhole/event/EventTimeUsualNanosPinLaw", name := "raw", desc := "(JJI)B" } : Jvm.MethodName) method_4_code (5 : Nat) (Option.some Jvm.ClassFile.FieldType.byte)).before a0 Z = true := hw _ (List.mem_of_getElem? (i := 6) rfl)
theorem w_7 {Z : State} {a0 : Array Value} (hw : OW Z a0) : (Jvm.Cond.arrayClass Jvm.ClassFile.FieldType.byte).before a0 Z = true := hw _ (List.mem_of_getElem? (i := 7) rfl)
theorem w_8 {Z : State} {a0 : Array Value} (hw : OW Z a0) : (Jvm.Cond.methodLink "com/example/dhole/dhole/event/EventTimeUsualNanosPinLaw" (17 : Nat) ({ cls := "com/example/dhole/dhole/event/EventTime", name := "usualNanos", desc := "([BII)I" } : Jvm.MethodName)).before a0 Z = true := hw _ (List.mem_of_getElem? (i := 8) rfl)
theorem w_9 {Z : State} {a0 : Array Value} (hw : OW Z a0) : (Jvm.Cond.static ({ cls := "com/example/dhole/dhole/event/EventTime", name := "usualNanos", desc := "([BII)I" } : Jvm.MethodName)).before a0 Z = true := hw _ (List.mem_of_getElem? (i := 9) rfl)
theorem w_10 {Z : State} {a0 : Array Value} (hw : OW Z a0) : (Jvm.Cond.initialized "com/example/dhole/dhole/event/EventTime").before a0 Z = true := hw _ (List.mem_of_getElem? (i := 10) rfl)
theorem w_11 {Z : State} {a0 : Array Value} (hw : OW Z a0) : (Jvm.Cond.code ({ cls := "com/example/dhole/dhole/event/EventTime", name := "usualNanos", desc := "([BII)I" } : Jvm.MethodName) prog_8_method_5_code (7 : Nat) (Option.some Jvm.ClassFile.FieldType.int)).before a0 Z = true := hw _ (List.mem_of_getElem? (i := 11) rfl)
theorem w_12 {Z : State} {a0 : Array Value} (hw : OW Z a0) : (Jvm.Cond.constant "com/example/dhole/dhole/event/EventTime" (63 : Nat) (100000000 : Int32)).before a0 Z = true := hw _ (List.mem_of_getElem? (i := 12) rfl)
theorem w_13 {Z : State} {a0 : Array Value} (hw : OW Z a0) : (Jvm.Cond.methodLink "com/example/dhole/dhole/event/EventTime" (64 : Nat) ({ cls := "com/example/dhole/dhole/event/EventTime", name := "isDigit", desc := "(B)Z" } : Jvm.MethodName)).before a0 Z = true := hw _ (List.mem_of_getElem? (i := 13) rfl)
theorem w_14 {Z : State} {a0 : Array Value} (hw : OW Z a0) : (Jvm.Cond.static ({ cls := "com/example/dhole/dhole/event/EventTime", name := "isDigit", desc := "(B)Z" } : Jvm.MethodName)).before a0 Z = true := hw _ (List.mem_of_getElem? (i := 14) rfl)
theorem w_15 {Z : State} {a0 : Array Value} (hw : OW Z a0) : (Jvm.Cond.code ({ cls := "com/example/dhole/dhole/event/EventTime", name := "isDigit", desc := "(B)Z" } : Jvm.MethodName) prog_8_method_15_code (1 : Nat) (Option.some Jvm.ClassFile.FieldType.boolean)).before a0 Z = true := hw _ (List.mem_of_getElem? (i := 15) rfl)
theorem w_16 {Z : State} {a0 : Array Value} (hw : OW Z a0) : (Jvm.Cond.methodLink "com/example/dhole/dhole/event/EventTimeUsualNanosPinLaw" (23 : Nat) ({ cls := "com/example/dhole/dhole/event/EventTimeUsualNanosPinLaw", name := "isDigit", desc := "(B)Z" } : Jvm.MethodName)).before a0 Z = true := hw _ (List.mem_of_getElem? (i := 16) rfl)
theorem w_17 {Z : State} {a0 : Array Value} (hw : OW Z a0) : (Jvm.Cond.static ({ cls := "com/example/dhole/dhole/event/EventTimeUsualNanosPinLaw", name := "isDigit", desc := "(B)Z" } : Jvm.MethodName)).before a0 Z = true := hw _ (List.mem_of_getElem? (i := 17) rfl)
theorem w_18 {Z : State} {a0 : Array Value} (hw : OW Z a0) : (Jvm.Cond.code ({ cls := "com/example/dhole/dhole/event/EventTimeUsualNanosPinLaw", name := "isDigit", desc := "(B)Z" } : Jvm.MethodName) method_3_code (1 : Nat) (Option.some Jvm.ClassFile.FieldType.boolean)).before a0 Z = true := hw _ (List.mem_of_getElem? (i := 18) rfl)
theorem w_19 {Z : State} {a0 : Array Value} (hw : OW Z a0) : (Jvm.Cond.constant "com/example/dhole/dhole/event/EventTimeUsualNanosPinLaw" (27 : Nat) (100000000 : Int32)).before a0 Z = true := hw _ (List.mem_of_getElem? (i := 19) rfl)
theorem w_20 {Z : State} {a0 : Array Value} (hw : OW Z a0) : (Jvm.Cond.constant "com/example/dhole/dhole/event/EventTimeUsualNanosPinLaw" (28 : Nat) (10000000 : Int32)).before a0 Z = true := hw _ (List.mem_of_getElem? (i := 20) rfl)
theorem w_21 {Z : State} {a0 : Array Value} (hw : OW Z a0) : (Jvm.Cond.constant "com/example/dhole/dhole/event/EventTimeUsualNanosPinLaw" (29 : Nat) (1000000 : Int32)).before a0 Z = true := hw _ (List.mem_of_getElem? (i := 21) rfl)
theorem w_22 {Z : State} {a0 : Array Value} (hw : OW Z a0) : (Jvm.Cond.constant "com/example/dhole/dhole/event/EventTimeUsualNanosPinLaw" (30 : Nat) (100000 : Int32)).before a0 Z = true := hw _ (List.mem_of_getElem? (i := 22) rfl)
def own_nan (g : Nat → Int32) : Nat → Nat → Int32 → Int32 → Int32
  | 0, _, _, acc => acc
  | d + 1, i, sc, acc => if 48 ≤ (g i).toInt ∧ (g i).toInt ≤ 57 then own_nan g d (i + 1) (sc / 10) (acc + (g i - 48) * sc) else acc
def own_res (g : Nat → Int32) (a : Nat) (to : Int) : Int32 := if (a : Int) < to ∧ g a = 46 then own_nan g (to - (a + 1)).toNat (a + 1) 100000000 0 else 0
theorem own_nan0 (g : Nat → Int32) : ∀ d i acc, own_nan g d i 0 acc = acc := by
  intro d
  induction d with
  | zero => intro i acc; rfl
  | succ d ih =>
    intro i acc
    rw [own_nan]
    split
    · rw [show ((0 : Int32) / 10) = 0 from by decide, ih, Int32.mul_zero, Int32.add_zero]
    · rfl
def own_gt (a : Nat) (bs : List Int32) (j : Nat) : Int32 := if a ≤ j then bs.getD (j - a) 0 else 0
theorem own_gk (a k : Nat) (bs : List Int32) : own_gt a bs (a + k) = bs.getD k 0 := by
  rw [own_gt, if_pos (Nat.le_add_right a k), Nat.add_sub_cancel_left]
theorem own_gz (a : Nat) (bs : List Int32) : own_gt a bs a = bs.getD 0 0 := own_gk a 0 bs
theorem own_past (a : Nat) (bs : List Int32) (j : Nat) (h : a + bs.length ≤ j) : own_gt a bs j = 0 := by
  rw [own_gt, if_pos (by omega), List.getD_eq_getElem?_getD, List.getElem?_eq_none (by omega)]
  rfl
theorem d2_0 : decode method_4_code 0 = .ok (.iload 4, 2) := by decide +kernel
theorem d2_2 : decode method_4_code 2 = .ok (.bipush 8, 2) := by decide +kernel
theorem d2_4 : decode method_4_code 4 = .ok (.if_icmp .ge 13, 3) := by decide +kernel
theorem d2_17 : decode method_4_code 17 = .ok (.lload_n 2, 1) := by decide +kernel
theorem d2_18 : decode method_4_code 18 = .ok (.bipush 8, 2) := by decide +kernel
theorem d2_20 : decode method_4_code 20 = .ok (.iload 4, 2) := by decide +kernel
theorem d2_22 : decode method_4_code 22 = .ok (.bipush 8, 2) := by decide +kernel
theorem d2_24 : decode method_4_code 24 = .ok (.isub, 1) := by decide +kernel
theorem d2_25 : decode method_4_code 25 = .ok (.imul, 1) := by decide +kernel
theorem d2_26 : decode method_4_code 26 = .ok (.lushr, 1) := by decide +kernel
theorem d2_27 : decode method_4_code 27 = .ok (.l2i, 1) := by decide +kernel
theorem d2_28 : decode method_4_code 28 = .ok (.i2b, 1) := by decide +kernel
theorem d2_29 : decode method_4_code 29 = .ok (.ireturn, 1) := by decide +kernel
theorem d2_7 : decode method_4_code 7 = .ok (.lload_n 0, 1) := by decide +kernel
theorem d2_8 : decode method_4_code 8 = .ok (.bipush 8, 2) := by decide +kernel
theorem d2_10 : decode method_4_code 10 = .ok (.iload 4, 2) := by decide +kernel
theorem d2_12 : decode method_4_code 12 = .ok (.imul, 1) := by decide +kernel
theorem d2_13 : decode method_4_code 13 = .ok (.lushr, 1) := by decide +kernel
theorem d2_14 : decode method_4_code 14 = .ok (.l2i, 1) := by decide +kernel
theorem d2_15 : decode method_4_code 15 = .ok (.i2b, 1) := by decide +kernel
theorem d2_16 : decode method_4_code 16 = .ok (.ireturn, 1) := by decide +kernel
theorem pn_2 : plainFor (⟨"com/example/dhole/dhole/event/EventTimeUsualNanosPinLaw", "raw", "(JJI)B"⟩ : MethodName) = true := plainFor_of_name (by first | (simp [plainName, overriddenIn]; done) | decide +kernel)
set_option maxHeartbeats 4000000 in
theorem c_raw (l : Launch) (Z : State) (a0 : Array Value) (hw : OW Z a0) (n0 : Nat) (q1 q2 : Int64) (k : Int32) (h0 : Heap) (Z0 : n0 ≤ h0.size) :
    OCon l Z n0 (⟨"com/example/dhole/dhole/event/EventTimeUsualNanosPinLaw", "raw", "(JJI)B"⟩ : MethodName) method_4_code 5 (some .byte) ({ frames := 0, cells := 0, slots := 0, locals := 0 } : Room) #[(.long q1), (.long q2), (.int k)] h0 (fun v h => ∃ r : Int32, v = some (.int r) ∧ r.toInt8.toInt32 = r ∧ h = h0) := by
  refine OCon.of (Ls := #[.val (.long q1), .second, .val (.long q2), .second, .val (.int k)]) pn_2 rfl rfl (fun m => by first | (simp [entryFrame, mkF, argsToLocals, Value.category]; done) | rfl) ?_
  intro p e s m below meth c T0 X0 K e0
  have N0 := Fr.nil n0
  refine o_iload X0 K d2_0 2 rfl rfl ?_
  refine o_bipush X0 K (8 : Int32) d2_2 4 rfl rfl ?_
  refine o_icmp_ge X0 K d2_4 17 (by decide) (by decide) 7 rfl (fun hc4 => ?_) (fun hc4 => ?_)
  · refine o_lloadN X0 K d2_17 18 rfl rfl ?_
    refine o_bipush X0 K (8 : Int32) d2_18 20 rfl rfl ?_
    refine o_iload X0 K d2_20 22 rfl rfl ?_
    refine o_bipush X0 K (8 : Int32) d2_22 24 rfl rfl ?_
    refine o_isub X0 K d2_24 25 rfl ?_
    refine o_imul X0 K d2_25 26 rfl ?_
    refine o_lushr X0 K d2_26 27 rfl ?_
    refine o_l2i X0 K d2_27 28 rfl ?_
    refine o_i2b X0 K d2_28 29 rfl ?_
    refine o_ireturnN X0 K (by decide) d2_29 (by decide) (by decide) N0 ?_
    exact ⟨_, rfl, o_nb _, e0⟩
  · refine o_lloadN X0 K d2_7 8 rfl rfl ?_
    refine o_bipush X0 K (8 : Int32) d2_8 10 rfl rfl ?_
    refine o_iload X0 K d2_10 12 rfl rfl ?_
    refine o_imul X0 K d2_12 13 rfl ?_
    refine o_lushr X0 K d2_13 14 rfl ?_
    refine o_l2i X0 K d2_14 15 rfl ?_
    refine o_i2b X0 K d2_15 16 rfl ?_
    refine o_ireturnN X0 K (by decide) d2_16 (by decide) (by decide) N0 ?_
    exact ⟨_, rfl, o_nb _, e0⟩
theorem d1_0 : decode method_5_code 0 = .ok (.lload_n 0, 1) := by decide +kernel
theorem d1_1 : decode method_5_code 1 = .ok (.lload_n 2, 1) := by decide +kernel
theorem d1_2 : decode method_5_code 2 = .ok (.iload 5, 2) := by decide +kernel
theorem d1_4 : decode method_5_code 4 = .ok (.invokestatic 7, 3) := by decide +kernel
theorem pd__JJI_B : parseMethodDescriptor "(JJI)B" = some ⟨[.long, .long, .int], some .byte⟩ := by decide +kernel
theorem d1_7 : decode method_5_code 7 = .ok (.istore 6, 2) := by decide +kernel
theorem d1_9 : decode method_5_code 9 = .ok (.iload 4, 2) := by decide +kernel
theorem d1_11 : decode method_5_code 11 = .ok (.iload 5, 2) := by decide +kernel
theorem d1_13 : decode method_5_code 13 = .ok (.iushr, 1) := by decide +kernel
theorem d1_14 : decode method_5_code 14 = .ok (.iconst 1, 1) := by decide +kernel
theorem d1_15 : decode method_5_code 15 = .ok (.iand, 1) := by decide +kernel
theorem d1_16 : decode method_5_code 16 = .ok (.ifCond .eq 17, 3) := by decide +kernel
theorem d1_33 : decode method_5_code 33 = .ok (.iload 6, 2) := by decide +kernel
theorem d1_35 : decode method_5_code 35 = .ok (.ireturn, 1) := by decide +kernel
theorem d1_19 : decode method_5_code 19 = .ok (.bipush 48, 2) := by decide +kernel
theorem d1_21 : decode method_5_code 21 = .ok (.iload 6, 2) := by decide +kernel
theorem d1_23 : decode method_5_code 23 = .ok (.sipush 255, 3) := by decide +kernel
theorem d1_26 : decode method_5_code 26 = .ok (.iand, 1) := by decide +kernel
theorem d1_27 : decode method_5_code 27 = .ok (.bipush 10, 2) := by decide +kernel
theorem d1_29 : decode method_5_code 29 = .ok (.irem, 1) := by decide +kernel
theorem d1_30 : decode method_5_code 30 = .ok (.iadd, 1) := by decide +kernel
theorem d1_31 : decode method_5_code 31 = .ok (.i2b, 1) := by decide +kernel
theorem d1_32 : decode method_5_code 32 = .ok (.ireturn, 1) := by decide +kernel
theorem pn_1 : plainFor (⟨"com/example/dhole/dhole/event/EventTimeUsualNanosPinLaw", "draw", "(JJII)B"⟩ : MethodName) = true := plainFor_of_name (by first | (simp [plainName, overriddenIn]; done) | decide +kernel)
set_option maxHeartbeats 4000000 in
theorem c_draw (l : Launch) (Z : State) (a0 : Array Value) (hw : OW Z a0) (n0 : Nat) (q1 q2 : Int64) (z k : Int32) (h0 : Heap) (Z0 : n0 ≤ h0.size) :
    OCon l Z n0 (⟨"com/example/dhole/dhole/event/EventTimeUsualNanosPinLaw", "draw", "(JJII)B"⟩ : MethodName) method_5_code 7 (some .byte) ({ frames := 1, cells := 0, slots := 0, locals := 16 } : Room) #[(.long q1), (.long q2), (.int z), (.int k)] h0 (fun v h => ∃ r : Int32, v = some (.int r) ∧ r.toInt8.toInt32 = r ∧ h = h0) := by
  refine OCon.of (Ls := #[.val (.long q1), .second, .val (.long q2), .second, .val (.int z), .val (.int k), .unset]) pn_1 rfl rfl (fun m => by first | (simp [entryFrame, mkF, argsToLocals, Value.category]; done) | rfl) ?_
  intro p e s m below meth c T0 X0 K e0
  have N0 := Fr.nil n0
  refine o_lloadN X0 K d1_0 1 rfl rfl ?_
  refine o_lloadN X0 K d1_1 2 rfl rfl ?_
  refine o_iload X0 K d1_2 4 rfl rfl ?_
  refine o_invokestatic X0 K d1_4 7 rfl (w_4 hw) (w_5 hw) (w_2 hw) (w_6 hw) (by decide) [(.long q1), (.long q2), (.int k)] [] rfl  (c_raw l Z a0 hw n0 q1 q2 k h0 Z0) e0 rfl (lenOf pd__JJI_B rfl) (by decide) 0 (Nat.le_of_eq rfl) (by decide) (by decide) (by decide) N0 ?_
  rintro _ T_1 h_1 locs_1 X_1 q_1 ⟨rv_1, rfl, hb_1, r_1⟩ N_1
  have e_1 := q_1.trans r_1
  show OGo p e below s n0 _ _ _ (T_1.setTop (mkF m 7 #[.val (.long q1), .second, .val (.long q2), .second, .val (.int z), .val (.int k), .unset] [(.int rv_1)]))
  refine o_istore X_1 K d1_7 9 rfl #[.val (.long q1), .second, .val (.long q2), .second, .val (.int z), .val (.int k), .val (.int rv_1)] rfl rfl ?_
  refine o_iload X_1 K d1_9 11 rfl rfl ?_
  refine o_iload X_1 K d1_11 13 rfl rfl ?_
  refine o_iushr X_1 K d1_13 14 rfl ?_
  refine o_iconst X_1 K (1 : Int32) d1_14 15 rfl rfl ?_
  refine o_iand X_1 K d1_15 16 rfl ?_
  refine o_if_eq X_1 K d1_16 33 (by decide) (by decide) 19 rfl (fun hc16 => ?_) (fun hc16 => ?_)
  · refine o_iload X_1 K d1_33 35 rfl rfl ?_
    refine o_ireturnN X_1 K (by decide) d1_35 (by decide) (by decide) N_1 ?_
    exact ⟨_, rfl, o_nb _, e_1⟩
  · refine o_bipush X_1 K (48 : Int32) d1_19 21 rfl rfl ?_
    refine o_iload X_1 K d1_21 23 rfl rfl ?_
    refine o_sipush X_1 K (255 : Int32) d1_23 26 rfl rfl ?_
    refine o_iand X_1 K d1_26 27 rfl ?_
    refine o_bipush X_1 K (10 : Int32) d1_27 29 rfl rfl ?_
    refine o_irem X_1 K d1_29 30 rfl (by decide) ?_
    refine o_iadd X_1 K d1_30 31 rfl ?_
    refine o_i2b X_1 K d1_31 32 rfl ?_
    refine o_ireturnN X_1 K (by decide) d1_32 (by decide) (by decide) N_1 ?_
    exact ⟨_, rfl, o_nb _, e_1⟩
theorem d4_0 : decode prog_8_method_15_code 0 = .ok (.iload_n 0, 1) := by decide +kernel
theorem d4_1 : decode prog_8_method_15_code 1 = .ok (.bipush 48, 2) := by decide +kernel
theorem d4_3 : decode prog_8_method_15_code 3 = .ok (.if_icmp .lt 13, 3) := by decide +kernel
theorem d4_16 : decode prog_8_method_15_code 16 = .ok (.iconst 0, 1) := by decide +kernel
theorem d4_17 : decode prog_8_method_15_code 17 = .ok (.ireturn, 1) := by decide +kernel
theorem d4_6 : decode prog_8_method_15_code 6 = .ok (.iload_n 0, 1) := by decide +kernel
theorem d4_7 : decode prog_8_method_15_code 7 = .ok (.bipush 57, 2) := by decide +kernel
theorem d4_9 : decode prog_8_method_15_code 9 = .ok (.if_icmp .gt 7, 3) := by decide +kernel
theorem d4_12 : decode prog_8_method_15_code 12 = .ok (.iconst 1, 1) := by decide +kernel
theorem d4_13 : decode prog_8_method_15_code 13 = .ok (.goto 4, 3) := by decide +kernel
theorem pn_4 : plainFor (⟨"com/example/dhole/dhole/event/EventTime", "isDigit", "(B)Z"⟩ : MethodName) = true := plainFor_of_name (by first | (simp [plainName, overriddenIn]; done) | decide +kernel)
set_option maxHeartbeats 4000000 in
theorem c_dig (l : Launch) (Z : State) (a0 : Array Value) (hw : OW Z a0) (n0 : Nat) (z : Int32) (h0 : Heap) (Z0 : n0 ≤ h0.size) :
    OCon l Z n0 (⟨"com/example/dhole/dhole/event/EventTime", "isDigit", "(B)Z"⟩ : MethodName) prog_8_method_15_code 1 (some .boolean) ({ frames := 0, cells := 0, slots := 0, locals := 0 } : Room) #[(.int z)] h0 (fun v h => ∃ r : Int32, v = some (.int r) ∧ ((r = 1 ∧ 48 ≤ z.toInt ∧ z.toInt ≤ 57) ∨ (r = 0 ∧ ¬ (48 ≤ z.toInt ∧ z.toInt ≤ 57))) ∧ h = h0) := by
  refine OCon.of (Ls := #[.val (.int z)]) pn_4 rfl rfl (fun m => by first | (simp [entryFrame, mkF, argsToLocals, Value.category]; done) | rfl) ?_
  intro p e s m below meth c T0 X0 K e0
  have N0 := Fr.nil n0
  have l0 : (0 : Int32).toInt = 0 := rfl
  have l1 : (1 : Int32).toInt = 1 := rfl
  have l48 : (48 : Int32).toInt = 48 := rfl
  have l57 : (57 : Int32).toInt = 57 := rfl
  refine o_iloadN X0 K d4_0 1 rfl rfl ?_
  refine o_bipush X0 K (48 : Int32) d4_1 3 rfl rfl ?_
  refine o_icmp_lt X0 K d4_3 16 (by decide) (by decide) 6 rfl (fun hc3 => ?_) (fun hc3 => ?_)
  · refine o_iconst X0 K (0 : Int32) d4_16 17 rfl rfl ?_
    refine o_ireturnN X0 K (by decide) d4_17 (by decide) (by decide) N0 ?_
    exact ⟨_, rfl, Or.inr ⟨rfl, by omega⟩, e0⟩
  · refine o_iloadN X0 K d4_6 7 rfl rfl ?_
    refine o_bipush X0 K (57 : Int32) d4_7 9 rfl rfl ?_
    refine o_icmp_gt X0 K d4_9 16 (by decide) (by decide) 12 rfl (fun hc9 => ?_) (fun hc9 => ?_)
    · refine o_iconst X0 K (0 : Int32) d4_16 17 rfl rfl ?_
      refine o_ireturnN X0 K (by decide) d4_17 (by decide) (by decide) N0 ?_
      exact ⟨_, rfl, Or.inr ⟨rfl, by omega⟩, e0⟩
    · refine o_iconst X0 K (1 : Int32) d4_12 13 rfl rfl ?_
      refine o_goto X0 K d4_13 17 (by decide) (by decide) ?_
      refine o_ireturnN X0 K (by decide) d4_17 (by decide) (by decide) N0 ?_
      exact ⟨_, rfl, Or.inl ⟨rfl, by omega⟩, e0⟩
theorem d5_0 : decode method_3_code 0 = .ok (.iload_n 0, 1) := by decide +kernel
theorem d5_1 : decode method_3_code 1 = .ok (.bipush 48, 2) := by decide +kernel
theorem d5_3 : decode method_3_code 3 = .ok (.if_icmp .lt 13, 3) := by decide +kernel
theorem d5_16 : decode method_3_code 16 = .ok (.iconst 0, 1) := by decide +kernel
theorem d5_17 : decode method_3_code 17 = .ok (.ireturn, 1) := by decide +kernel
theorem d5_6 : decode method_3_code 6 = .ok (.iload_n 0, 1) := by decide +kernel
theorem d5_7 : decode method_3_code 7 = .ok (.bipush 57, 2) := by decide +kernel
theorem d5_9 : decode method_3_code 9 = .ok (.if_icmp .gt 7, 3) := by decide +kernel
theorem d5_12 : decode method_3_code 12 = .ok (.iconst 1, 1) := by decide +kernel
theorem d5_13 : decode method_3_code 13 = .ok (.goto 4, 3) := by decide +kernel
theorem pn_5 : plainFor (⟨"com/example/dhole/dhole/event/EventTimeUsualNanosPinLaw", "isDigit", "(B)Z"⟩ : MethodName) = true := plainFor_of_name (by first | (simp [plainName, overriddenIn]; done) | decide +kernel)
set_option maxHeartbeats 4000000 in
theorem c_dig2 (l : Launch) (Z : State) (a0 : Array Value) (hw : OW Z a0) (n0 : Nat) (z : Int32) (h0 : Heap) (Z0 : n0 ≤ h0.size) :
    OCon l Z n0 (⟨"com/example/dhole/dhole/event/EventTimeUsualNanosPinLaw", "isDigit", "(B)Z"⟩ : MethodName) method_3_code 1 (some .boolean) ({ frames := 0, cells := 0, slots := 0, locals := 0 } : Room) #[(.int z)] h0 (fun v h => ∃ r : Int32, v = some (.int r) ∧ ((r = 1 ∧ 48 ≤ z.toInt ∧ z.toInt ≤ 57) ∨ (r = 0 ∧ ¬ (48 ≤ z.toInt ∧ z.toInt ≤ 57))) ∧ h = h0) := by
  refine OCon.of (Ls := #[.val (.int z)]) pn_5 rfl rfl (fun m => by first | (simp [entryFrame, mkF, argsToLocals, Value.category]; done) | rfl) ?_
  intro p e s m below meth c T0 X0 K e0
  have N0 := Fr.nil n0
  have l0 : (0 : Int32).toInt = 0 := rfl
  have l1 : (1 : Int32).toInt = 1 := rfl
  have l48 : (48 : Int32).toInt = 48 := rfl
  have l57 : (57 : Int32).toInt = 57 := rfl
  refine o_iloadN X0 K d5_0 1 rfl rfl ?_
  refine o_bipush X0 K (48 : Int32) d5_1 3 rfl rfl ?_
  refine o_icmp_lt X0 K d5_3 16 (by decide) (by decide) 6 rfl (fun hc3 => ?_) (fun hc3 => ?_)
  · refine o_iconst X0 K (0 : Int32) d5_16 17 rfl rfl ?_
    refine o_ireturnN X0 K (by decide) d5_17 (by decide) (by decide) N0 ?_
    exact ⟨_, rfl, Or.inr ⟨rfl, by omega⟩, e0⟩
  · refine o_iloadN X0 K d5_6 7 rfl rfl ?_
    refine o_bipush X0 K (57 : Int32) d5_7 9 rfl rfl ?_
    refine o_icmp_gt X0 K d5_9 16 (by decide) (by decide) 12 rfl (fun hc9 => ?_) (fun hc9 => ?_)
    · refine o_iconst X0 K (0 : Int32) d5_16 17 rfl rfl ?_
      refine o_ireturnN X0 K (by decide) d5_17 (by decide) (by decide) N0 ?_
      exact ⟨_, rfl, Or.inr ⟨rfl, by omega⟩, e0⟩
    · refine o_iconst X0 K (1 : Int32) d5_12 13 rfl rfl ?_
      refine o_goto X0 K d5_13 17 (by decide) (by decide) ?_
      refine o_ireturnN X0 K (by decide) d5_17 (by decide) (by decide) N0 ?_
      exact ⟨_, rfl, Or.inl ⟨rfl, by omega⟩, e0⟩
theorem d3_0 : decode prog_8_method_5_code 0 = .ok (.iconst 0, 1) := by decide +kernel
theorem d3_1 : decode prog_8_method_5_code 1 = .ok (.istore_n 3, 1) := by decide +kernel
theorem d3_2 : decode prog_8_method_5_code 2 = .ok (.iload_n 1, 1) := by decide +kernel
theorem d3_3 : decode prog_8_method_5_code 3 = .ok (.bipush 19, 2) := by decide +kernel
theorem d3_5 : decode prog_8_method_5_code 5 = .ok (.iadd, 1) := by decide +kernel
theorem d3_6 : decode prog_8_method_5_code 6 = .ok (.istore 4, 2) := by decide +kernel
theorem d3_8 : decode prog_8_method_5_code 8 = .ok (.iload 4, 2) := by decide +kernel
theorem d3_10 : decode prog_8_method_5_code 10 = .ok (.iload_n 2, 1) := by decide +kernel
theorem d3_11 : decode prog_8_method_5_code 11 = .ok (.if_icmp .ge 64, 3) := by decide +kernel
theorem d3_75 : decode prog_8_method_5_code 75 = .ok (.iload_n 3, 1) := by decide +kernel
theorem d3_76 : decode prog_8_method_5_code 76 = .ok (.ireturn, 1) := by decide +kernel
theorem d3_14 : decode prog_8_method_5_code 14 = .ok (.aload_n 0, 1) := by decide +kernel
theorem d3_15 : decode prog_8_method_5_code 15 = .ok (.iload 4, 2) := by decide +kernel
theorem d3_17 : decode prog_8_method_5_code 17 = .ok (.baload, 1) := by decide +kernel
theorem d3_18 : decode prog_8_method_5_code 18 = .ok (.bipush 46, 2) := by decide +kernel
theorem d3_20 : decode prog_8_method_5_code 20 = .ok (.if_icmp .ne 55, 3) := by decide +kernel
theorem d3_23 : decode prog_8_method_5_code 23 = .ok (.ldc 63, 2) := by decide +kernel
theorem d3_25 : decode prog_8_method_5_code 25 = .ok (.istore 5, 2) := by decide +kernel
theorem d3_27 : decode prog_8_method_5_code 27 = .ok (.iload 4, 2) := by decide +kernel
theorem d3_29 : decode prog_8_method_5_code 29 = .ok (.iconst 1, 1) := by decide +kernel
theorem d3_30 : decode prog_8_method_5_code 30 = .ok (.iadd, 1) := by decide +kernel
theorem d3_31 : decode prog_8_method_5_code 31 = .ok (.istore 6, 2) := by decide +kernel
theorem d3_33 : decode prog_8_method_5_code 33 = .ok (.iload 6, 2) := by decide +kernel
theorem d3_35 : decode prog_8_method_5_code 35 = .ok (.iload_n 2, 1) := by decide +kernel
theorem d3_36 : decode prog_8_method_5_code 36 = .ok (.if_icmp .ge 39, 3) := by decide +kernel
theorem d3_39 : decode prog_8_method_5_code 39 = .ok (.aload_n 0, 1) := by decide +kernel
theorem d3_40 : decode prog_8_method_5_code 40 = .ok (.iload 6, 2) := by decide +kernel
theorem d3_42 : decode prog_8_method_5_code 42 = .ok (.baload, 1) := by decide +kernel
theorem d3_43 : decode prog_8_method_5_code 43 = .ok (.invokestatic 64, 3) := by decide +kernel
theorem pd__B_Z : parseMethodDescriptor "(B)Z" = some ⟨[.byte], some .boolean⟩ := by decide +kernel
theorem d3_46 : decode prog_8_method_5_code 46 = .ok (.ifCond .eq 29, 3) := by decide +kernel
theorem d3_49 : decode prog_8_method_5_code 49 = .ok (.iload_n 3, 1) := by decide +kernel
theorem d3_50 : decode prog_8_method_5_code 50 = .ok (.aload_n 0, 1) := by decide +kernel
theorem d3_51 : decode prog_8_method_5_code 51 = .ok (.iload 6, 2) := by decide +kernel
theorem d3_53 : decode prog_8_method_5_code 53 = .ok (.baload, 1) := by decide +kernel
theorem d3_54 : decode prog_8_method_5_code 54 = .ok (.bipush 48, 2) := by decide +kernel
theorem d3_56 : decode prog_8_method_5_code 56 = .ok (.isub, 1) := by decide +kernel
theorem d3_57 : decode prog_8_method_5_code 57 = .ok (.iload 5, 2) := by decide +kernel
theorem d3_59 : decode prog_8_method_5_code 59 = .ok (.imul, 1) := by decide +kernel
theorem d3_60 : decode prog_8_method_5_code 60 = .ok (.iadd, 1) := by decide +kernel
theorem d3_61 : decode prog_8_method_5_code 61 = .ok (.istore_n 3, 1) := by decide +kernel
theorem d3_62 : decode prog_8_method_5_code 62 = .ok (.iload 5, 2) := by decide +kernel
theorem d3_64 : decode prog_8_method_5_code 64 = .ok (.bipush 10, 2) := by decide +kernel
theorem d3_66 : decode prog_8_method_5_code 66 = .ok (.idiv, 1) := by decide +kernel
theorem d3_67 : decode prog_8_method_5_code 67 = .ok (.istore 5, 2) := by decide +kernel
theorem d3_69 : decode prog_8_method_5_code 69 = .ok (.iinc 6 1, 3) := by decide +kernel
theorem d3_72 : decode prog_8_method_5_code 72 = .ok (.goto (-39), 3) := by decide +kernel
theorem pn_3 : plainFor (⟨"com/example/dhole/dhole/event/EventTime", "usualNanos", "([BII)I"⟩ : MethodName) = true := plainFor_of_name (by first | (simp [plainName, overriddenIn]; done) | decide +kernel)
set_option maxHeartbeats 4000000 in
theorem c_nan (l : Launch) (Z : State) (a0 : Array Value) (hw : OW Z a0) (n0 : Nat) (a : Addr) (g : Nat → Int32) (fr to : Int32) (h0 : Heap) (Z0 : n0 ≤ h0.size) (A_a : OAr Z h0 a .byte 34 (fun j => .int (g j))) (h1 : 0 ≤ fr.toInt ∧ fr.toInt ≤ 3 ∧ to.toInt ≤ 34) :
    OCon l Z n0 (⟨"com/example/dhole/dhole/event/EventTime", "usualNanos", "([BII)I"⟩ : MethodName) prog_8_method_5_code 7 (some .int) ({ frames := 1, cells := 0, slots := 0, locals := 20 } : Room) #[(.ref a), (.int fr), (.int to)] h0 (fun v h => v = some (.int (own_res g (fr.toInt.toNat + 19) to.toInt)) ∧ h = h0) := by
  refine OCon.of (Ls := #[.val (.ref a), .val (.int fr), .val (.int to), .unset, .unset, .unset, .unset]) pn_3 rfl rfl (fun m => by first | (simp [entryFrame, mkF, argsToLocals, Value.category]; done) | rfl) ?_
  intro p e s m below meth c T0 X0 K e0
  have N0 := Fr.nil n0
  have l0 : (0 : Int32).toInt = 0 := rfl
  have l1 : (1 : Int32).toInt = 1 := rfl
  have l10 : (10 : Int32).toInt = 10 := rfl
  have l19 : (19 : Int32).toInt = 19 := rfl
  have l46 : (46 : Int32).toInt = 46 := rfl
  have l48 : (48 : Int32).toInt = 48 := rfl
  have l100000000 : (100000000 : Int32).toInt = 100000000 := rfl
  have l10000000 : (10000000 : Int32).toInt = 10000000 := rfl
  obtain ⟨aN, haN⟩ : ∃ k, k = fr.toInt.toNat + 19 := ⟨_, rfl⟩
  rw [← haN]
  refine o_iconst X0 K (0 : Int32) d3_0 1 rfl rfl ?_
  refine o_istoreN X0 K d3_1 2 rfl #[.val (.ref a), .val (.int fr), .val (.int to), .val (.int (0 : Int32)), .unset, .unset, .unset] rfl rfl ?_
  refine o_iloadN X0 K d3_2 3 rfl rfl ?_
  refine o_bipush X0 K (19 : Int32) d3_3 5 rfl rfl ?_
  refine o_iadd X0 K d3_5 6 rfl ?_
  obtain ⟨at_, h_at_⟩ : ∃ z_ : Int32, z_ = (fr + (19 : Int32)) := ⟨_, rfl⟩
  refine o_istore X0 K d3_6 8 rfl #[.val (.ref a), .val (.int fr), .val (.int to), .val (.int (0 : Int32)), .val (.int at_), .unset, .unset] h_at_.symm rfl ?_
  have hat : at_.toInt = aN := by rw [h_at_]; have q1 := c_iadd fr 19; have q2 := rng32 (fr + 19); omega
  refine o_iload X0 K d3_8 10 rfl rfl ?_
  refine o_iloadN X0 K d3_10 11 rfl rfl ?_
  refine o_icmp_ge X0 K d3_11 75 (by decide) (by decide) 14 rfl (fun hc11 => ?_) (fun hc11 => ?_)
  · refine o_iloadN X0 K d3_75 76 rfl rfl ?_
    refine o_ireturn X0 K d3_76 (by decide) (by decide) N0 ?_
    exact ⟨by rw [own_res, if_neg (fun z => by omega)], e0⟩
  · refine o_aloadN X0 K d3_14 15 rfl rfl rfl ?_
    refine o_iload X0 K d3_15 17 rfl rfl ?_
    refine o_baload X0 K (i := aN) (v := (.int (g aN))) d3_17 18 rfl e0 A_a (by omega) (by omega) (rfl) ?_
    refine o_bipush X0 K (46 : Int32) d3_18 20 rfl rfl ?_
    refine o_icmp_ne X0 K d3_20 75 (by decide) (by decide) 23 rfl (fun hc20 => ?_) (fun hc20 => ?_)
    · refine o_iloadN X0 K d3_75 76 rfl rfl ?_
      refine o_ireturn X0 K d3_76 (by decide) (by decide) N0 ?_
      exact ⟨by rw [own_res, if_neg (fun z => hc20 z.2)], e0⟩
    · refine o_ldcI X0 K d3_23 25 rfl (w_12 hw) ?_
      refine o_istore X0 K d3_25 27 rfl #[.val (.ref a), .val (.int fr), .val (.int to), .val (.int (0 : Int32)), .val (.int at_), .val (.int (100000000 : Int32)), .unset] rfl rfl ?_
      refine o_iload X0 K d3_27 29 rfl rfl ?_
      refine o_iconst X0 K (1 : Int32) d3_29 30 rfl rfl ?_
      refine o_iadd X0 K d3_30 31 rfl ?_
      obtain ⟨i0, h_i0⟩ : ∃ z_ : Int32, z_ = (at_ + (1 : Int32)) := ⟨_, rfl⟩
      refine o_istore X0 K d3_31 33 rfl #[.val (.ref a), .val (.int fr), .val (.int to), .val (.int (0 : Int32)), .val (.int at_), .val (.int (100000000 : Int32)), .val (.int i0)] h_i0.symm rfl ?_
      have hi0 : i0.toInt = aN + 1 := by rw [h_i0]; have q1 := c_iadd at_ 1; have q2 := rng32 (at_ + 1); omega
      refine o_ind (fun (t : State × List Loc × Int32 × Int32 × Int32) => t.1.setTop (mkF m 33 #[.val (.ref a), .val (.int fr), .val (.int to), .val (.int t.2.2.1), .val (.int at_), .val (.int t.2.2.2.1), .val (.int t.2.2.2.2)] [])) (fun d t => Stand p l e _ s m _ below meth c t.1 t.2.1 0 0 ∧ t.1.heap = h0 ∧ Fr n0 t.2.1 ∧ t.2.2.2.2.toInt + d = to.toInt ∧ 0 ≤ t.2.2.2.2.toInt ∧ own_nan g d t.2.2.2.2.toInt.toNat t.2.2.2.1 t.2.2.1 = own_res g aN to.toInt) ?_ ?_ (to.toInt - (aN + 1)).toNat (T0, _, (0 : Int32), (100000000 : Int32), i0) ⟨X0, e0, N0, by show i0.toInt + _ = _; omega, by show 0 ≤ i0.toInt; omega, by show own_nan g _ i0.toInt.toNat _ _ = _; rw [own_res, if_pos ⟨by omega, hc20⟩, show i0.toInt.toNat = aN + 1 from by omega]⟩
      · rintro ⟨T1, locs1, acc, sc, i1⟩ ⟨X1, e1, N1, hi1, hp1, hg1⟩
        dsimp only at X1 e1 N1 hi1 hp1 hg1
        show OGo p e below s n0 _ _ _ (T1.setTop (mkF m 33 #[.val (.ref a), .val (.int fr), .val (.int to), .val (.int acc), .val (.int at_), .val (.int sc), .val (.int i1)] []))
        refine o_iload X1 K d3_33 35 rfl rfl ?_
        refine o_iloadN X1 K d3_35 36 rfl rfl ?_
        refine o_icmp_ge_t X1 K d3_36 75 (by decide) (by decide) (by omega) ?_
        refine o_iloadN X1 K d3_75 76 rfl rfl ?_
        refine o_ireturn X1 K d3_76 (by decide) (by decide) N1 ?_
        exact ⟨by rw [← hg1]; rfl, e1⟩
      · rintro d ih ⟨T1, locs1, acc, sc, i1⟩ ⟨X1, e1, N1, hi1, hp1, hg1⟩
        dsimp only at X1 e1 N1 hi1 hp1 hg1
        show OGo p e below s n0 _ _ _ (T1.setTop (mkF m 33 #[.val (.ref a), .val (.int fr), .val (.int to), .val (.int acc), .val (.int at_), .val (.int sc), .val (.int i1)] []))
        rw [own_nan] at hg1
        refine o_iload X1 K d3_33 35 rfl rfl ?_
        refine o_iloadN X1 K d3_35 36 rfl rfl ?_
        refine o_icmp_ge_f X1 K d3_36 39 rfl (by omega) ?_
        refine o_aloadN X1 K d3_39 40 rfl rfl rfl ?_
        refine o_iload X1 K d3_40 42 rfl rfl ?_
        refine o_baload X1 K (i := i1.toInt.toNat) (v := (.int (g i1.toInt.toNat))) d3_42 43 rfl e1 A_a (by omega) (by omega) (rfl) ?_
        refine o_invokestatic X1 K d3_43 46 rfl (w_13 hw) (w_14 hw) (w_10 hw) (w_15 hw) (by decide) [(.int (g i1.toInt.toNat))] [] rfl  (c_dig l Z a0 hw n0 (g i1.toInt.toNat) h0 Z0) e1 rfl (lenOf pd__B_Z rfl) (by decide) 0 (Nat.le_of_eq rfl) (by decide) (by decide) (by decide) N1 ?_
        rintro _ T_2 h_2 locs_2 X_2 q_2 ⟨rv_2, rfl, hb_2, r_2⟩ N_2
        have e_2 := q_2.trans r_2
        show OGo p e below s n0 _ _ _ (T_2.setTop (mkF m 46 #[.val (.ref a), .val (.int fr), .val (.int to), .val (.int acc), .val (.int at_), .val (.int sc), .val (.int i1)] [(.int rv_2)]))
        rcases hb_2 with ⟨rfl, hr_rv_2⟩ | ⟨rfl, hr_rv_2⟩
        · skip
          refine o_if_eq_f X_2 K d3_46 49 rfl (by decide) ?_
          refine o_iloadN X_2 K d3_49 50 rfl rfl ?_
          refine o_aloadN X_2 K d3_50 51 rfl rfl rfl ?_
          refine o_iload X_2 K d3_51 53 rfl rfl ?_
          refine o_baload X_2 K (i := i1.toInt.toNat) (v := (.int (g i1.toInt.toNat))) d3_53 54 rfl e_2 A_a (by omega) (by omega) (rfl) ?_
          refine o_bipush X_2 K (48 : Int32) d3_54 56 rfl rfl ?_
          refine o_isub X_2 K d3_56 57 rfl ?_
          refine o_iload X_2 K d3_57 59 rfl rfl ?_
          refine o_imul X_2 K d3_59 60 rfl ?_
          refine o_iadd X_2 K d3_60 61 rfl ?_
          refine o_istoreN X_2 K d3_61 62 rfl #[.val (.ref a), .val (.int fr), .val (.int to), .val (.int (acc + (((g i1.toInt.toNat) - (48 : Int32)) * sc))), .val (.int at_), .val (.int sc), .val (.int i1)] rfl rfl ?_
          refine o_iload X_2 K d3_62 64 rfl rfl ?_
          refine o_bipush X_2 K (10 : Int32) d3_64 66 rfl rfl ?_
          refine o_idiv X_2 K d3_66 67 rfl (by decide) ?_
          refine o_istore X_2 K d3_67 69 rfl #[.val (.ref a), .val (.int fr), .val (.int to), .val (.int (acc + (((g i1.toInt.toNat) - (48 : Int32)) * sc))), .val (.int at_), .val (.int (sc / (10 : Int32))), .val (.int i1)] rfl rfl ?_
          obtain ⟨i2, h_i2⟩ : ∃ z_ : Int32, z_ = (i1 + (1 : Int32)) := ⟨_, rfl⟩
          refine o_iinc X_2 K d3_69 72 rfl #[.val (.ref a), .val (.int fr), .val (.int to), .val (.int (acc + (((g i1.toInt.toNat) - (48 : Int32)) * sc))), .val (.int at_), .val (.int (sc / (10 : Int32))), .val (.int i2)] rfl h_i2.symm rfl ?_
          refine o_goto X_2 K d3_72 33 (by decide) (by decide) ?_
          have hi2 : i2.toInt = i1.toInt + 1 := by rw [h_i2]; have q2 := c_iadd i1 1; have q3 := rng32 (i1 + 1); omega
          rw [if_pos (by omega)] at hg1
          refine ih (T_2, _, _, _, i2) ⟨X_2, e_2, N_2, by show i2.toInt + (d : Int) = _; omega, by show 0 ≤ i2.toInt; omega, ?_⟩
          show own_nan g d i2.toInt.toNat _ _ = _
          rw [show i2.toInt.toNat = i1.toInt.toNat + 1 from by omega]
          exact hg1
        · skip
          refine o_if_eq_t X_2 K d3_46 75 (by decide) (by decide) (by decide) ?_
          refine o_iloadN X_2 K d3_75 76 rfl rfl ?_
          refine o_ireturn X_2 K d3_76 (by decide) (by decide) N_2 ?_
          rw [if_neg (by omega)] at hg1
          exact ⟨by rw [← hg1], e_2⟩
theorem pd__JJII_B : parseMethodDescriptor "(JJII)B" = some ⟨[.long, .long, .int, .int], some .byte⟩ := by decide +kernel
theorem pd___BII_I : parseMethodDescriptor "([BII)I" = some ⟨[(.array .byte), .int, .int], some .int⟩ := by decide +kernel
theorem pn_0 : plainFor x = true := plainFor_of_name (by first | (simp [plainName, overriddenIn, x]; done) | decide +kernel)
set_option maxHeartbeats 4000000 in
theorem rm0 (l : Launch) (Z : State) (a0 : Array Value) (hw : OW Z a0) (n0 : Nat) (p0 p1 : Int32) (p2 p3 : Int64) (h0 : Heap) (Z0 : n0 ≤ h0.size) :
    OCon l Z n0 x code maxLocals ret room_1 #[(.int p0), (.int p1), (.long p2), (.long p3)] h0 (fun v _ => v = some (.int 1)) := by
  refine OCon.of (Ls := #[.val (.int p0), .val (.int p1), .val (.long p2), .second, .val (.long p3), .second, .unset, .unset, .unset, .unset, .unset, .unset, .unset, .unset, .unset, .unset, .unset, .unset, .unset, .unset, .unset, .unset, .unset, .unset, .unset]) pn_0 rfl rfl (fun m => by first | (simp [entryFrame, mkF, argsToLocals, Value.category, maxLocals]; done) | rfl) ?_
  intro p e s m below meth c T0 X0 K e0
  have N0 := Fr.nil n0
  have l0 : (0 : Int32).toInt = 0 := rfl
  have l1 : (1 : Int32).toInt = 1 := rfl
  have l2 : (2 : Int32).toInt = 2 := rfl
  have l3 : (3 : Int32).toInt = 3 := rfl
  have l4 : (4 : Int32).toInt = 4 := rfl
  have l5 : (5 : Int32).toInt = 5 := rfl
  have l6 : (6 : Int32).toInt = 6 := rfl
  have l7 : (7 : Int32).toInt = 7 := rfl
  have l8 : (8 : Int32).toInt = 8 := rfl
  have l9 : (9 : Int32).toInt = 9 := rfl
  have l10 : (10 : Int32).toInt = 10 := rfl
  have l11 : (11 : Int32).toInt = 11 := rfl
  have l19 : (19 : Int32).toInt = 19 := rfl
  have l31 : (31 : Int32).toInt = 31 := rfl
  have l34 : (34 : Int32).toInt = 34 := rfl
  have l46 : (46 : Int32).toInt = 46 := rfl
  have l48 : (48 : Int32).toInt = 48 := rfl
  have l100 : (100 : Int32).toInt = 100 := rfl
  have l1000 : (1000 : Int32).toInt = 1000 := rfl
  have l10000 : (10000 : Int32).toInt = 10000 := rfl
  have l100000 : (100000 : Int32).toInt = 100000 := rfl
  have l1000000 : (1000000 : Int32).toInt = 1000000 := rfl
  have l10000000 : (10000000 : Int32).toInt = 10000000 := rfl
  have l100000000 : (100000000 : Int32).toInt = 100000000 := rfl
  refine o_iloadN X0 K at_0 1 rfl rfl ?_
  refine o_iconst X0 K (3 : Int32) at_1 2 rfl rfl ?_
  refine o_iand X0 K at_2 3 rfl ?_
  obtain ⟨fr, h_fr⟩ : ∃ z_ : Int32, z_ = (p0 &&& (3 : Int32)) := ⟨_, rfl⟩
  refine o_istore X0 K at_3 5 rfl #[.val (.int p0), .val (.int p1), .val (.long p2), .second, .val (.long p3), .second, .val (.int fr), .unset, .unset, .unset, .unset, .unset, .unset, .unset, .unset, .unset, .unset, .unset, .unset, .unset, .unset, .unset, .unset, .unset, .unset] h_fr.symm rfl ?_
  have hfr : 0 ≤ fr.toInt ∧ fr.toInt ≤ 3 := by rw [h_fr]; exact c_and _ _ (by decide)
  refine o_iload X0 K at_5 7 rfl rfl ?_
  refine o_iloadN X0 K at_7 8 rfl rfl ?_
  refine o_iconst X0 K (2 : Int32) at_8 9 rfl rfl ?_
  refine o_iushr X0 K at_9 10 rfl ?_
  refine o_bipush X0 K (31 : Int32) at_10 12 rfl rfl ?_
  refine o_iand X0 K at_12 13 rfl ?_
  refine o_iadd X0 K at_13 14 rfl ?_
  obtain ⟨to, h_to⟩ : ∃ z_ : Int32, z_ = (fr + (((p0.toUInt32 >>> ((2 : Int32) &&& 31).toUInt32).toInt32) &&& (31 : Int32))) := ⟨_, rfl⟩
  refine o_istore X0 K at_14 16 rfl #[.val (.int p0), .val (.int p1), .val (.long p2), .second, .val (.long p3), .second, .val (.int fr), .val (.int to), .unset, .unset, .unset, .unset, .unset, .unset, .unset, .unset, .unset, .unset, .unset, .unset, .unset, .unset, .unset, .unset, .unset] h_to.symm rfl ?_
  have hto : fr.toInt ≤ to.toInt ∧ to.toInt ≤ 34 := by
    rw [h_to]
    have q1 := c_and ((p0.toUInt32 >>> ((2 : Int32) &&& 31).toUInt32).toInt32) 31 (by decide)
    have q2 := c_iadd fr (((p0.toUInt32 >>> ((2 : Int32) &&& 31).toUInt32).toInt32) &&& 31)
    have q3 := rng32 (fr + (((p0.toUInt32 >>> ((2 : Int32) &&& 31).toUInt32).toInt32) &&& 31))
    omega
  refine o_iloadN X0 K at_16 17 rfl rfl ?_
  refine o_iconst X0 K (1 : Int32) at_17 18 rfl rfl ?_
  refine o_iand X0 K at_18 19 rfl ?_
  refine o_join (fun (t : State × List Loc × Int32) => t.1.setTop (mkF m 34 #[.val (.int p0), .val (.int p1), .val (.long p2), .second, .val (.long p3), .second, .val (.int fr), .val (.int to), .unset, .unset, .unset, .unset, .unset, .unset, .unset, .unset, .unset, .unset, .unset, .unset, .unset, .unset, .unset, .unset, .unset] [(.int t.2.2)])) (fun t => Stand p l e room_1 s m #[(.int p0), (.int p1), (.long p2), (.long p3)] below meth c t.1 t.2.1 0 0 ∧ t.1.heap = h0 ∧ Fr n0 t.2.1 ∧ t.2.2.toInt8.toInt32 = t.2.2) (fun KJ => ?_) ?_
  · refine o_if_eq X0 K at_19 27 (by decide) (by decide) 22 rfl (fun hc19 => ?_) (fun hc19 => ?_)
    · refine o_lloadN X0 K at_27 28 rfl rfl ?_
      refine o_lload X0 K at_28 30 rfl rfl ?_
      refine o_iconst X0 K (0 : Int32) at_30 31 rfl rfl ?_
      refine o_invokestatic X0 K at_31 34 rfl (w_4 hw) (w_5 hw) (w_2 hw) (w_6 hw) (by decide) [(.long p2), (.long p3), (.int (0 : Int32))] [] rfl  (c_raw l Z a0 hw n0 p2 p3 (0 : Int32) h0 Z0) e0 rfl (lenOf pd__JJI_B rfl) (by decide) 0 (Nat.le_of_eq rfl) (by decide) (by decide) (by decide) N0 ?_
      rintro _ T_3 h_3 locs_3 X_3 q_3 ⟨rv_3, rfl, hb_3, r_3⟩ N_3
      have e_3 := q_3.trans r_3
      show OGo p e below s n0 _ _ _ (T_3.setTop (mkF m 34 #[.val (.int p0), .val (.int p1), .val (.long p2), .second, .val (.long p3), .second, .val (.int fr), .val (.int to), .unset, .unset, .unset, .unset, .unset, .unset, .unset, .unset, .unset, .unset, .unset, .unset, .unset, .unset, .unset, .unset, .unset] [(.int rv_3)]))
      exact KJ (T_3, _, _) ⟨X_3, e_3, N_3, hb_3⟩
    · refine o_bipush X0 K (46 : Int32) at_22 24 rfl rfl ?_
      refine o_goto X0 K at_24 34 (by decide) (by decide) ?_
      exact KJ (T0, _, _) ⟨X0, e0, N0, by show ((46 : Int32)).toInt8.toInt32 = 46; decide⟩
  rintro ⟨T9, locs9, dot⟩ ⟨X9, e9, N9, hy_dot⟩
  dsimp only at X9 e9 N9 hy_dot
  show OGo p e below s n0 _ _ _ (T9.setTop (mkF m 34 #[.val (.int p0), .val (.int p1), .val (.long p2), .second, .val (.long p3), .second, .val (.int fr), .val (.int to), .unset, .unset, .unset, .unset, .unset, .unset, .unset, .unset, .unset, .unset, .unset, .unset, .unset, .unset, .unset, .unset, .unset] [(.int dot)]))
  refine o_istore X9 K at_34 36 rfl #[.val (.int p0), .val (.int p1), .val (.long p2), .second, .val (.long p3), .second, .val (.int fr), .val (.int to), .val (.int dot), .unset, .unset, .unset, .unset, .unset, .unset, .unset, .unset, .unset, .unset, .unset, .unset, .unset, .unset, .unset, .unset] rfl rfl ?_
  refine o_lloadN X9 K at_36 37 rfl rfl ?_
  refine o_lload X9 K at_37 39 rfl rfl ?_
  refine o_iloadN X9 K at_39 40 rfl rfl ?_
  refine o_iconst X9 K (1 : Int32) at_40 41 rfl rfl ?_
  refine o_invokestatic X9 K at_41 44 rfl (w_0 hw) (w_1 hw) (w_2 hw) (w_3 hw) (by decide) [(.long p2), (.long p3), (.int p1), (.int (1 : Int32))] [] rfl  (c_draw l Z a0 hw n0 p2 p3 p1 (1 : Int32) h0 Z0) e9 rfl (lenOf pd__JJII_B rfl) (by decide) 0 (Nat.le_of_eq rfl) (by decide) (by decide) (by decide) N9 ?_
  rintro _ T_4 h_4 locs_4 X_4 q_4 ⟨rv_4, rfl, hb_4, r_4⟩ N_4
  have e_4 := q_4.trans r_4
  show OGo p e below s n0 _ _ _ (T_4.setTop (mkF m 44 #[.val (.int p0), .val (.int p1), .val (.long p2), .second, .val (.long p3), .second, .val (.int fr), .val (.int to), .val (.int dot), .unset, .unset, .unset, .unset, .unset, .unset, .unset, .unset, .unset, .unset, .unset, .unset, .unset, .unset, .unset, .unset] [(.int rv_4)]))
  obtain ⟨b0, h_b0⟩ : ∃ z_ : Int32, z_ = rv_4 := ⟨_, rfl⟩
  refine o_istore X_4 K at_44 46 rfl #[.val (.int p0), .val (.int p1), .val (.long p2), .second, .val (.long p3), .second, .val (.int fr), .val (.int to), .val (.int dot), .val (.int b0), .unset, .unset, .unset, .unset, .unset, .unset, .unset, .unset, .unset, .unset, .unset, .unset, .unset, .unset, .unset] h_b0.symm rfl ?_
  have hy_b0 : b0.toInt8.toInt32 = b0 := by rw [h_b0]; exact hb_4
  refine o_lloadN X_4 K at_46 47 rfl rfl ?_
  refine o_lload X_4 K at_47 49 rfl rfl ?_
  refine o_iloadN X_4 K at_49 50 rfl rfl ?_
  refine o_iconst X_4 K (2 : Int32) at_50 51 rfl rfl ?_
  refine o_invokestatic X_4 K at_51 54 rfl (w_0 hw) (w_1 hw) (w_2 hw) (w_3 hw) (by decide) [(.long p2), (.long p3), (.int p1), (.int (2 : Int32))] [] rfl  (c_draw l Z a0 hw n0 p2 p3 p1 (2 : Int32) h0 Z0) e_4 rfl (lenOf pd__JJII_B rfl) (by decide) 0 (Nat.le_of_eq rfl) (by decide) (by decide) (by decide) N_4 ?_
  rintro _ T_5 h_5 locs_5 X_5 q_5 ⟨rv_5, rfl, hb_5, r_5⟩ N_5
  have e_5 := q_5.trans r_5
  show OGo p e below s n0 _ _ _ (T_5.setTop (mkF m 54 #[.val (.int p0), .val (.int p1), .val (.long p2), .second, .val (.long p3), .second, .val (.int fr), .val (.int to), .val (.int dot), .val (.int b0), .unset, .unset, .unset, .unset, .unset, .unset, .unset, .unset, .unset, .unset, .unset, .unset, .unset, .unset, .unset] [(.int rv_5)]))
  obtain ⟨b1, h_b1⟩ : ∃ z_ : Int32, z_ = rv_5 := ⟨_, rfl⟩
  refine o_istore X_5 K at_54 56 rfl #[.val (.int p0), .val (.int p1), .val (.long p2), .second, .val (.long p3), .second, .val (.int fr), .val (.int to), .val (.int dot), .val (.int b0), .val (.int b1), .unset, .unset, .unset, .unset, .unset, .unset, .unset, .unset, .unset, .unset, .unset, .unset, .unset, .unset] h_b1.symm rfl ?_
  have hy_b1 : b1.toInt8.toInt32 = b1 := by rw [h_b1]; exact hb_5
  refine o_lloadN X_5 K at_56 57 rfl rfl ?_
  refine o_lload X_5 K at_57 59 rfl rfl ?_
  refine o_iloadN X_5 K at_59 60 rfl rfl ?_
  refine o_iconst X_5 K (3 : Int32) at_60 61 rfl rfl ?_
  refine o_invokestatic X_5 K at_61 64 rfl (w_0 hw) (w_1 hw) (w_2 hw) (w_3 hw) (by decide) [(.long p2), (.long p3), (.int p1), (.int (3 : Int32))] [] rfl  (c_draw l Z a0 hw n0 p2 p3 p1 (3 : Int32) h0 Z0) e_5 rfl (lenOf pd__JJII_B rfl) (by decide) 0 (Nat.le_of_eq rfl) (by decide) (by decide) (by decide) N_5 ?_
  rintro _ T_6 h_6 locs_6 X_6 q_6 ⟨rv_6, rfl, hb_6, r_6⟩ N_6
  have e_6 := q_6.trans r_6
  show OGo p e below s n0 _ _ _ (T_6.setTop (mkF m 64 #[.val (.int p0), .val (.int p1), .val (.long p2), .second, .val (.long p3), .second, .val (.int fr), .val (.int to), .val (.int dot), .val (.int b0), .val (.int b1), .unset, .unset, .unset, .unset, .unset, .unset, .unset, .unset, .unset, .unset, .unset, .unset, .unset, .unset] [(.int rv_6)]))
  obtain ⟨b2, h_b2⟩ : ∃ z_ : Int32, z_ = rv_6 := ⟨_, rfl⟩
  refine o_istore X_6 K at_64 66 rfl #[.val (.int p0), .val (.int p1), .val (.long p2), .second, .val (.long p3), .second, .val (.int fr), .val (.int to), .val (.int dot), .val (.int b0), .val (.int b1), .val (.int b2), .unset, .unset, .unset, .unset, .unset, .unset, .unset, .unset, .unset, .unset, .unset, .unset, .unset] h_b2.symm rfl ?_
  have hy_b2 : b2.toInt8.toInt32 = b2 := by rw [h_b2]; exact hb_6
  refine o_lloadN X_6 K at_66 67 rfl rfl ?_
  refine o_lload X_6 K at_67 69 rfl rfl ?_
  refine o_iloadN X_6 K at_69 70 rfl rfl ?_
  refine o_iconst X_6 K (4 : Int32) at_70 71 rfl rfl ?_
  refine o_invokestatic X_6 K at_71 74 rfl (w_0 hw) (w_1 hw) (w_2 hw) (w_3 hw) (by decide) [(.long p2), (.long p3), (.int p1), (.int (4 : Int32))] [] rfl  (c_draw l Z a0 hw n0 p2 p3 p1 (4 : Int32) h0 Z0) e_6 rfl (lenOf pd__JJII_B rfl) (by decide) 0 (Nat.le_of_eq rfl) (by decide) (by decide) (by decide) N_6 ?_
  rintro _ T_7 h_7 locs_7 X_7 q_7 ⟨rv_7, rfl, hb_7, r_7⟩ N_7
  have e_7 := q_7.trans r_7
  show OGo p e below s n0 _ _ _ (T_7.setTop (mkF m 74 #[.val (.int p0), .val (.int p1), .val (.long p2), .second, .val (.long p3), .second, .val (.int fr), .val (.int to), .val (.int dot), .val (.int b0), .val (.int b1), .val (.int b2), .unset, .unset, .unset, .unset, .unset, .unset, .unset, .unset, .unset, .unset, .unset, .unset, .unset] [(.int rv_7)]))
  obtain ⟨b3, h_b3⟩ : ∃ z_ : Int32, z_ = rv_7 := ⟨_, rfl⟩
  refine o_istore X_7 K at_74 76 rfl #[.val (.int p0), .val (.int p1), .val (.long p2), .second, .val (.long p3), .second, .val (.int fr), .val (.int to), .val (.int dot), .val (.int b0), .val (.int b1), .val (.int b2), .val (.int b3), .unset, .unset, .unset, .unset, .unset, .unset, .unset, .unset, .unset, .unset, .unset, .unset] h_b3.symm rfl ?_
  have hy_b3 : b3.toInt8.toInt32 = b3 := by rw [h_b3]; exact hb_7
  refine o_lloadN X_7 K at_76 77 rfl rfl ?_
  refine o_lload X_7 K at_77 79 rfl rfl ?_
  refine o_iloadN X_7 K at_79 80 rfl rfl ?_
  refine o_iconst X_7 K (5 : Int32) at_80 81 rfl rfl ?_
  refine o_invokestatic X_7 K at_81 84 rfl (w_0 hw) (w_1 hw) (w_2 hw) (w_3 hw) (by decide) [(.long p2), (.long p3), (.int p1), (.int (5 : Int32))] [] rfl  (c_draw l Z a0 hw n0 p2 p3 p1 (5 : Int32) h0 Z0) e_7 rfl (lenOf pd__JJII_B rfl) (by decide) 0 (Nat.le_of_eq rfl) (by decide) (by decide) (by decide) N_7 ?_
  rintro _ T_8 h_8 locs_8 X_8 q_8 ⟨rv_8, rfl, hb_8, r_8⟩ N_8
  have e_8 := q_8.trans r_8
  show OGo p e below s n0 _ _ _ (T_8.setTop (mkF m 84 #[.val (.int p0), .val (.int p1), .val (.long p2), .second, .val (.long p3), .second, .val (.int fr), .val (.int to), .val (.int dot), .val (.int b0), .val (.int b1), .val (.int b2), .val (.int b3), .unset, .unset, .unset, .unset, .unset, .unset, .unset, .unset, .unset, .unset, .unset, .unset] [(.int rv_8)]))
  obtain ⟨b4, h_b4⟩ : ∃ z_ : Int32, z_ = rv_8 := ⟨_, rfl⟩
  refine o_istore X_8 K at_84 86 rfl #[.val (.int p0), .val (.int p1), .val (.long p2), .second, .val (.long p3), .second, .val (.int fr), .val (.int to), .val (.int dot), .val (.int b0), .val (.int b1), .val (.int b2), .val (.int b3), .val (.int b4), .unset, .unset, .unset, .unset, .unset, .unset, .unset, .unset, .unset, .unset, .unset] h_b4.symm rfl ?_
  have hy_b4 : b4.toInt8.toInt32 = b4 := by rw [h_b4]; exact hb_8
  refine o_lloadN X_8 K at_86 87 rfl rfl ?_
  refine o_lload X_8 K at_87 89 rfl rfl ?_
  refine o_iloadN X_8 K at_89 90 rfl rfl ?_
  refine o_bipush X_8 K (6 : Int32) at_90 92 rfl rfl ?_
  refine o_invokestatic X_8 K at_92 95 rfl (w_0 hw) (w_1 hw) (w_2 hw) (w_3 hw) (by decide) [(.long p2), (.long p3), (.int p1), (.int (6 : Int32))] [] rfl  (c_draw l Z a0 hw n0 p2 p3 p1 (6 : Int32) h0 Z0) e_8 rfl (lenOf pd__JJII_B rfl) (by decide) 0 (Nat.le_of_eq rfl) (by decide) (by decide) (by decide) N_8 ?_
  rintro _ T_9 h_9 locs_9 X_9 q_9 ⟨rv_9, rfl, hb_9, r_9⟩ N_9
  have e_9 := q_9.trans r_9
  show OGo p e below s n0 _ _ _ (T_9.setTop (mkF m 95 #[.val (.int p0), .val (.int p1), .val (.long p2), .second, .val (.long p3), .second, .val (.int fr), .val (.int to), .val (.int dot), .val (.int b0), .val (.int b1), .val (.int b2), .val (.int b3), .val (.int b4), .unset, .unset, .unset, .unset, .unset, .unset, .unset, .unset, .unset, .unset, .unset] [(.int rv_9)]))
  obtain ⟨b5, h_b5⟩ : ∃ z_ : Int32, z_ = rv_9 := ⟨_, rfl⟩
  refine o_istore X_9 K at_95 97 rfl #[.val (.int p0), .val (.int p1), .val (.long p2), .second, .val (.long p3), .second, .val (.int fr), .val (.int to), .val (.int dot), .val (.int b0), .val (.int b1), .val (.int b2), .val (.int b3), .val (.int b4), .val (.int b5), .unset, .unset, .unset, .unset, .unset, .unset, .unset, .unset, .unset, .unset] h_b5.symm rfl ?_
  have hy_b5 : b5.toInt8.toInt32 = b5 := by rw [h_b5]; exact hb_9
  refine o_lloadN X_9 K at_97 98 rfl rfl ?_
  refine o_lload X_9 K at_98 100 rfl rfl ?_
  refine o_iloadN X_9 K at_100 101 rfl rfl ?_
  refine o_bipush X_9 K (7 : Int32) at_101 103 rfl rfl ?_
  refine o_invokestatic X_9 K at_103 106 rfl (w_0 hw) (w_1 hw) (w_2 hw) (w_3 hw) (by decide) [(.long p2), (.long p3), (.int p1), (.int (7 : Int32))] [] rfl  (c_draw l Z a0 hw n0 p2 p3 p1 (7 : Int32) h0 Z0) e_9 rfl (lenOf pd__JJII_B rfl) (by decide) 0 (Nat.le_of_eq rfl) (by decide) (by decide) (by decide) N_9 ?_
  rintro _ T_10 h_10 locs_10 X_10 q_10 ⟨rv_10, rfl, hb_10, r_10⟩ N_10
  have e_10 := q_10.trans r_10
  show OGo p e below s n0 _ _ _ (T_10.setTop (mkF m 106 #[.val (.int p0), .val (.int p1), .val (.long p2), .second, .val (.long p3), .second, .val (.int fr), .val (.int to), .val (.int dot), .val (.int b0), .val (.int b1), .val (.int b2), .val (.int b3), .val (.int b4), .val (.int b5), .unset, .unset, .unset, .unset, .unset, .unset, .unset, .unset, .unset, .unset] [(.int rv_10)]))
  obtain ⟨b6, h_b6⟩ : ∃ z_ : Int32, z_ = rv_10 := ⟨_, rfl⟩
  refine o_istore X_10 K at_106 108 rfl #[.val (.int p0), .val (.int p1), .val (.long p2), .second, .val (.long p3), .second, .val (.int fr), .val (.int to), .val (.int dot), .val (.int b0), .val (.int b1), .val (.int b2), .val (.int b3), .val (.int b4), .val (.int b5), .val (.int b6), .unset, .unset, .unset, .unset, .unset, .unset, .unset, .unset, .unset] h_b6.symm rfl ?_
  have hy_b6 : b6.toInt8.toInt32 = b6 := by rw [h_b6]; exact hb_10
  refine o_lloadN X_10 K at_108 109 rfl rfl ?_
  refine o_lload X_10 K at_109 111 rfl rfl ?_
  refine o_iloadN X_10 K at_111 112 rfl rfl ?_
  refine o_bipush X_10 K (8 : Int32) at_112 114 rfl rfl ?_
  refine o_invokestatic X_10 K at_114 117 rfl (w_0 hw) (w_1 hw) (w_2 hw) (w_3 hw) (by decide) [(.long p2), (.long p3), (.int p1), (.int (8 : Int32))] [] rfl  (c_draw l Z a0 hw n0 p2 p3 p1 (8 : Int32) h0 Z0) e_10 rfl (lenOf pd__JJII_B rfl) (by decide) 0 (Nat.le_of_eq rfl) (by decide) (by decide) (by decide) N_10 ?_
  rintro _ T_11 h_11 locs_11 X_11 q_11 ⟨rv_11, rfl, hb_11, r_11⟩ N_11
  have e_11 := q_11.trans r_11
  show OGo p e below s n0 _ _ _ (T_11.setTop (mkF m 117 #[.val (.int p0), .val (.int p1), .val (.long p2), .second, .val (.long p3), .second, .val (.int fr), .val (.int to), .val (.int dot), .val (.int b0), .val (.int b1), .val (.int b2), .val (.int b3), .val (.int b4), .val (.int b5), .val (.int b6), .unset, .unset, .unset, .unset, .unset, .unset, .unset, .unset, .unset] [(.int rv_11)]))
  obtain ⟨b7, h_b7⟩ : ∃ z_ : Int32, z_ = rv_11 := ⟨_, rfl⟩
  refine o_istore X_11 K at_117 119 rfl #[.val (.int p0), .val (.int p1), .val (.long p2), .second, .val (.long p3), .second, .val (.int fr), .val (.int to), .val (.int dot), .val (.int b0), .val (.int b1), .val (.int b2), .val (.int b3), .val (.int b4), .val (.int b5), .val (.int b6), .val (.int b7), .unset, .unset, .unset, .unset, .unset, .unset, .unset, .unset] h_b7.symm rfl ?_
  have hy_b7 : b7.toInt8.toInt32 = b7 := by rw [h_b7]; exact hb_11
  refine o_lloadN X_11 K at_119 120 rfl rfl ?_
  refine o_lload X_11 K at_120 122 rfl rfl ?_
  refine o_iloadN X_11 K at_122 123 rfl rfl ?_
  refine o_bipush X_11 K (9 : Int32) at_123 125 rfl rfl ?_
  refine o_invokestatic X_11 K at_125 128 rfl (w_0 hw) (w_1 hw) (w_2 hw) (w_3 hw) (by decide) [(.long p2), (.long p3), (.int p1), (.int (9 : Int32))] [] rfl  (c_draw l Z a0 hw n0 p2 p3 p1 (9 : Int32) h0 Z0) e_11 rfl (lenOf pd__JJII_B rfl) (by decide) 0 (Nat.le_of_eq rfl) (by decide) (by decide) (by decide) N_11 ?_
  rintro _ T_12 h_12 locs_12 X_12 q_12 ⟨rv_12, rfl, hb_12, r_12⟩ N_12
  have e_12 := q_12.trans r_12
  show OGo p e below s n0 _ _ _ (T_12.setTop (mkF m 128 #[.val (.int p0), .val (.int p1), .val (.long p2), .second, .val (.long p3), .second, .val (.int fr), .val (.int to), .val (.int dot), .val (.int b0), .val (.int b1), .val (.int b2), .val (.int b3), .val (.int b4), .val (.int b5), .val (.int b6), .val (.int b7), .unset, .unset, .unset, .unset, .unset, .unset, .unset, .unset] [(.int rv_12)]))
  obtain ⟨b8, h_b8⟩ : ∃ z_ : Int32, z_ = rv_12 := ⟨_, rfl⟩
  refine o_istore X_12 K at_128 130 rfl #[.val (.int p0), .val (.int p1), .val (.long p2), .second, .val (.long p3), .second, .val (.int fr), .val (.int to), .val (.int dot), .val (.int b0), .val (.int b1), .val (.int b2), .val (.int b3), .val (.int b4), .val (.int b5), .val (.int b6), .val (.int b7), .val (.int b8), .unset, .unset, .unset, .unset, .unset, .unset, .unset] h_b8.symm rfl ?_
  have hy_b8 : b8.toInt8.toInt32 = b8 := by rw [h_b8]; exact hb_12
  refine o_lloadN X_12 K at_130 131 rfl rfl ?_
  refine o_lload X_12 K at_131 133 rfl rfl ?_
  refine o_iloadN X_12 K at_133 134 rfl rfl ?_
  refine o_bipush X_12 K (10 : Int32) at_134 136 rfl rfl ?_
  refine o_invokestatic X_12 K at_136 139 rfl (w_0 hw) (w_1 hw) (w_2 hw) (w_3 hw) (by decide) [(.long p2), (.long p3), (.int p1), (.int (10 : Int32))] [] rfl  (c_draw l Z a0 hw n0 p2 p3 p1 (10 : Int32) h0 Z0) e_12 rfl (lenOf pd__JJII_B rfl) (by decide) 0 (Nat.le_of_eq rfl) (by decide) (by decide) (by decide) N_12 ?_
  rintro _ T_13 h_13 locs_13 X_13 q_13 ⟨rv_13, rfl, hb_13, r_13⟩ N_13
  have e_13 := q_13.trans r_13
  show OGo p e below s n0 _ _ _ (T_13.setTop (mkF m 139 #[.val (.int p0), .val (.int p1), .val (.long p2), .second, .val (.long p3), .second, .val (.int fr), .val (.int to), .val (.int dot), .val (.int b0), .val (.int b1), .val (.int b2), .val (.int b3), .val (.int b4), .val (.int b5), .val (.int b6), .val (.int b7), .val (.int b8), .unset, .unset, .unset, .unset, .unset, .unset, .unset] [(.int rv_13)]))
  obtain ⟨b9, h_b9⟩ : ∃ z_ : Int32, z_ = rv_13 := ⟨_, rfl⟩
  refine o_istore X_13 K at_139 141 rfl #[.val (.int p0), .val (.int p1), .val (.long p2), .second, .val (.long p3), .second, .val (.int fr), .val (.int to), .val (.int dot), .val (.int b0), .val (.int b1), .val (.int b2), .val (.int b3), .val (.int b4), .val (.int b5), .val (.int b6), .val (.int b7), .val (.int b8), .val (.int b9), .unset, .unset, .unset, .unset, .unset, .unset] h_b9.symm rfl ?_
  have hy_b9 : b9.toInt8.toInt32 = b9 := by rw [h_b9]; exact hb_13
  refine o_lloadN X_13 K at_141 142 rfl rfl ?_
  refine o_lload X_13 K at_142 144 rfl rfl ?_
  refine o_iloadN X_13 K at_144 145 rfl rfl ?_
  refine o_bipush X_13 K (11 : Int32) at_145 147 rfl rfl ?_
  refine o_invokestatic X_13 K at_147 150 rfl (w_0 hw) (w_1 hw) (w_2 hw) (w_3 hw) (by decide) [(.long p2), (.long p3), (.int p1), (.int (11 : Int32))] [] rfl  (c_draw l Z a0 hw n0 p2 p3 p1 (11 : Int32) h0 Z0) e_13 rfl (lenOf pd__JJII_B rfl) (by decide) 0 (Nat.le_of_eq rfl) (by decide) (by decide) (by decide) N_13 ?_
  rintro _ T_14 h_14 locs_14 X_14 q_14 ⟨rv_14, rfl, hb_14, r_14⟩ N_14
  have e_14 := q_14.trans r_14
  show OGo p e below s n0 _ _ _ (T_14.setTop (mkF m 150 #[.val (.int p0), .val (.int p1), .val (.long p2), .second, .val (.long p3), .second, .val (.int fr), .val (.int to), .val (.int dot), .val (.int b0), .val (.int b1), .val (.int b2), .val (.int b3), .val (.int b4), .val (.int b5), .val (.int b6), .val (.int b7), .val (.int b8), .val (.int b9), .unset, .unset, .unset, .unset, .unset, .unset] [(.int rv_14)]))
  obtain ⟨b10, h_b10⟩ : ∃ z_ : Int32, z_ = rv_14 := ⟨_, rfl⟩
  refine o_istore X_14 K at_150 152 rfl #[.val (.int p0), .val (.int p1), .val (.long p2), .second, .val (.long p3), .second, .val (.int fr), .val (.int to), .val (.int dot), .val (.int b0), .val (.int b1), .val (.int b2), .val (.int b3), .val (.int b4), .val (.int b5), .val (.int b6), .val (.int b7), .val (.int b8), .val (.int b9), .val (.int b10), .unset, .unset, .unset, .unset, .unset] h_b10.symm rfl ?_
  have hy_b10 : b10.toInt8.toInt32 = b10 := by rw [h_b10]; exact hb_14
  refine o_bipush X_14 K (34 : Int32) at_152 154 rfl rfl ?_
  refine o_newarray X_14 K (n := 34) at_154 156 rfl (w_7 hw) e_14 (by decide) 34 (by decide) (by decide) (by decide) (by decide) rfl ?_
  intro T_15 h_15 ar g_15 X_15 e_15 E_15 A_15
  dsimp only [newarray.typeOf, defaultValue] at A_15
  have Z_15 : n0 ≤ h_15.size := Nat.le_trans Z0 E_15.1
  have g_ar : n0 ≤ ar := by rw [g_15]; exact Z0
  refine o_astore X_15 K at_156 158 rfl #[.val (.int p0), .val (.int p1), .val (.long p2), .second, .val (.long p3), .second, .val (.int fr), .val (.int to), .val (.int dot), .val (.int b0), .val (.int b1), .val (.int b2), .val (.int b3), .val (.int b4), .val (.int b5), .val (.int b6), .val (.int b7), .val (.int b8), .val (.int b9), .val (.int b10), .val (.ref ar), .unset, .unset, .unset, .unset] rfl rfl ?_
  refine o_iload X_15 K at_158 160 rfl rfl ?_
  refine o_bipush X_15 K (19 : Int32) at_160 162 rfl rfl ?_
  refine o_iadd X_15 K at_162 163 rfl ?_
  obtain ⟨at_, h_at_⟩ : ∃ z_ : Int32, z_ = (fr + (19 : Int32)) := ⟨_, rfl⟩
  refine o_istore X_15 K at_163 165 rfl #[.val (.int p0), .val (.int p1), .val (.long p2), .second, .val (.long p3), .second, .val (.int fr), .val (.int to), .val (.int dot), .val (.int b0), .val (.int b1), .val (.int b2), .val (.int b3), .val (.int b4), .val (.int b5), .val (.int b6), .val (.int b7), .val (.int b8), .val (.int b9), .val (.int b10), .val (.ref ar), .val (.int at_), .unset, .unset, .unset] h_at_.symm rfl ?_
  obtain ⟨aN, haN⟩ : ∃ k, k = fr.toInt.toNat + 19 := ⟨_, rfl⟩
  have hat : at_.toInt = aN := by rw [h_at_]; have q1 := c_iadd fr 19; have q2 := rng32 (fr + 19); omega
  clear h_at_
  refine o_aload X_15 K at_165 167 rfl rfl rfl ?_
  refine o_iload X_15 K at_167 169 rfl rfl ?_
  refine o_iload X_15 K at_169 171 rfl rfl ?_
  refine o_bastore X_15 K (i := aN) (x' := dot) at_171 172 rfl e_15 A_15 (hat) (by omega) (hy_dot) N_14 g_ar ?_
  intro T_16 h_16 locs_16 X_16 e_16 W_16 A_16 N_16
  have Z_16 : n0 ≤ h_16.size := by rw [Wr.size W_16]; exact Z_15
  refine o_aload X_16 K at_172 174 rfl rfl rfl ?_
  refine o_iload X_16 K at_174 176 rfl rfl ?_
  refine o_iconst X_16 K (1 : Int32) at_176 177 rfl rfl ?_
  refine o_iadd X_16 K at_177 178 rfl ?_
  refine o_iload X_16 K at_178 180 rfl rfl ?_
  refine o_bastore X_16 K (i := (aN + 1)) (x' := b0) at_180 181 rfl e_16 A_16 (by have q1 := c_iadd at_ 1; have q2 := rng32 (at_ + 1); omega) (by omega) (hy_b0) N_16 g_ar ?_
  intro T_17 h_17 locs_17 X_17 e_17 W_17 A_17 N_17
  have Z_17 : n0 ≤ h_17.size := by rw [Wr.size W_17]; exact Z_16
  refine o_aload X_17 K at_181 183 rfl rfl rfl ?_
  refine o_iload X_17 K at_183 185 rfl rfl ?_
  refine o_iconst X_17 K (2 : Int32) at_185 186 rfl rfl ?_
  refine o_iadd X_17 K at_186 187 rfl ?_
  refine o_iload X_17 K at_187 189 rfl rfl ?_
  refine o_bastore X_17 K (i := (aN + 2)) (x' := b1) at_189 190 rfl e_17 A_17 (by have q1 := c_iadd at_ 2; have q2 := rng32 (at_ + 2); omega) (by omega) (hy_b1) N_17 g_ar ?_
  intro T_18 h_18 locs_18 X_18 e_18 W_18 A_18 N_18
  have Z_18 : n0 ≤ h_18.size := by rw [Wr.size W_18]; exact Z_17
  refine o_aload X_18 K at_190 192 rfl rfl rfl ?_
  refine o_iload X_18 K at_192 194 rfl rfl ?_
  refine o_iconst X_18 K (3 : Int32) at_194 195 rfl rfl ?_
  refine o_iadd X_18 K at_195 196 rfl ?_
  refine o_iload X_18 K at_196 198 rfl rfl ?_
  refine o_bastore X_18 K (i := (aN + 3)) (x' := b2) at_198 199 rfl e_18 A_18 (by have q1 := c_iadd at_ 3; have q2 := rng32 (at_ + 3); omega) (by omega) (hy_b2) N_18 g_ar ?_
  intro T_19 h_19 locs_19 X_19 e_19 W_19 A_19 N_19
  have Z_19 : n0 ≤ h_19.size := by rw [Wr.size W_19]; exact Z_18
  refine o_aload X_19 K at_199 201 rfl rfl rfl ?_
  refine o_iload X_19 K at_201 203 rfl rfl ?_
  refine o_iconst X_19 K (4 : Int32) at_203 204 rfl rfl ?_
  refine o_iadd X_19 K at_204 205 rfl ?_
  refine o_iload X_19 K at_205 207 rfl rfl ?_
  refine o_bastore X_19 K (i := (aN + 4)) (x' := b3) at_207 208 rfl e_19 A_19 (by have q1 := c_iadd at_ 4; have q2 := rng32 (at_ + 4); omega) (by omega) (hy_b3) N_19 g_ar ?_
  intro T_20 h_20 locs_20 X_20 e_20 W_20 A_20 N_20
  have Z_20 : n0 ≤ h_20.size := by rw [Wr.size W_20]; exact Z_19
  refine o_aload X_20 K at_208 210 rfl rfl rfl ?_
  refine o_iload X_20 K at_210 212 rfl rfl ?_
  refine o_iconst X_20 K (5 : Int32) at_212 213 rfl rfl ?_
  refine o_iadd X_20 K at_213 214 rfl ?_
  refine o_iload X_20 K at_214 216 rfl rfl ?_
  refine o_bastore X_20 K (i := (aN + 5)) (x' := b4) at_216 217 rfl e_20 A_20 (by have q1 := c_iadd at_ 5; have q2 := rng32 (at_ + 5); omega) (by omega) (hy_b4) N_20 g_ar ?_
  intro T_21 h_21 locs_21 X_21 e_21 W_21 A_21 N_21
  have Z_21 : n0 ≤ h_21.size := by rw [Wr.size W_21]; exact Z_20
  refine o_aload X_21 K at_217 219 rfl rfl rfl ?_
  refine o_iload X_21 K at_219 221 rfl rfl ?_
  refine o_bipush X_21 K (6 : Int32) at_221 223 rfl rfl ?_
  refine o_iadd X_21 K at_223 224 rfl ?_
  refine o_iload X_21 K at_224 226 rfl rfl ?_
  refine o_bastore X_21 K (i := (aN + 6)) (x' := b5) at_226 227 rfl e_21 A_21 (by have q1 := c_iadd at_ 6; have q2 := rng32 (at_ + 6); omega) (by omega) (hy_b5) N_21 g_ar ?_
  intro T_22 h_22 locs_22 X_22 e_22 W_22 A_22 N_22
  have Z_22 : n0 ≤ h_22.size := by rw [Wr.size W_22]; exact Z_21
  refine o_aload X_22 K at_227 229 rfl rfl rfl ?_
  refine o_iload X_22 K at_229 231 rfl rfl ?_
  refine o_bipush X_22 K (7 : Int32) at_231 233 rfl rfl ?_
  refine o_iadd X_22 K at_233 234 rfl ?_
  refine o_iload X_22 K at_234 236 rfl rfl ?_
  refine o_bastore X_22 K (i := (aN + 7)) (x' := b6) at_236 237 rfl e_22 A_22 (by have q1 := c_iadd at_ 7; have q2 := rng32 (at_ + 7); omega) (by omega) (hy_b6) N_22 g_ar ?_
  intro T_23 h_23 locs_23 X_23 e_23 W_23 A_23 N_23
  have Z_23 : n0 ≤ h_23.size := by rw [Wr.size W_23]; exact Z_22
  refine o_aload X_23 K at_237 239 rfl rfl rfl ?_
  refine o_iload X_23 K at_239 241 rfl rfl ?_
  refine o_bipush X_23 K (8 : Int32) at_241 243 rfl rfl ?_
  refine o_iadd X_23 K at_243 244 rfl ?_
  refine o_iload X_23 K at_244 246 rfl rfl ?_
  refine o_bastore X_23 K (i := (aN + 8)) (x' := b7) at_246 247 rfl e_23 A_23 (by have q1 := c_iadd at_ 8; have q2 := rng32 (at_ + 8); omega) (by omega) (hy_b7) N_23 g_ar ?_
  intro T_24 h_24 locs_24 X_24 e_24 W_24 A_24 N_24
  have Z_24 : n0 ≤ h_24.size := by rw [Wr.size W_24]; exact Z_23
  refine o_aload X_24 K at_247 249 rfl rfl rfl ?_
  refine o_iload X_24 K at_249 251 rfl rfl ?_
  refine o_bipush X_24 K (9 : Int32) at_251 253 rfl rfl ?_
  refine o_iadd X_24 K at_253 254 rfl ?_
  refine o_iload X_24 K at_254 256 rfl rfl ?_
  refine o_bastore X_24 K (i := (aN + 9)) (x' := b8) at_256 257 rfl e_24 A_24 (by have q1 := c_iadd at_ 9; have q2 := rng32 (at_ + 9); omega) (by omega) (hy_b8) N_24 g_ar ?_
  intro T_25 h_25 locs_25 X_25 e_25 W_25 A_25 N_25
  have Z_25 : n0 ≤ h_25.size := by rw [Wr.size W_25]; exact Z_24
  refine o_aload X_25 K at_257 259 rfl rfl rfl ?_
  refine o_iload X_25 K at_259 261 rfl rfl ?_
  refine o_bipush X_25 K (10 : Int32) at_261 263 rfl rfl ?_
  refine o_iadd X_25 K at_263 264 rfl ?_
  refine o_iload X_25 K at_264 266 rfl rfl ?_
  refine o_bastore X_25 K (i := (aN + 10)) (x' := b9) at_266 267 rfl e_25 A_25 (by have q1 := c_iadd at_ 10; have q2 := rng32 (at_ + 10); omega) (by omega) (hy_b9) N_25 g_ar ?_
  intro T_26 h_26 locs_26 X_26 e_26 W_26 A_26 N_26
  have Z_26 : n0 ≤ h_26.size := by rw [Wr.size W_26]; exact Z_25
  refine o_aload X_26 K at_267 269 rfl rfl rfl ?_
  refine o_iload X_26 K at_269 271 rfl rfl ?_
  refine o_bipush X_26 K (11 : Int32) at_271 273 rfl rfl ?_
  refine o_iadd X_26 K at_273 274 rfl ?_
  refine o_iload X_26 K at_274 276 rfl rfl ?_
  refine o_bastore X_26 K (i := (aN + 11)) (x' := b10) at_276 277 rfl e_26 A_26 (by have q1 := c_iadd at_ 11; have q2 := rng32 (at_ + 11); omega) (by omega) (hy_b10) N_26 g_ar ?_
  intro T_27 h_27 locs_27 X_27 e_27 W_27 A_27 N_27
  have Z_27 : n0 ≤ h_27.size := by rw [Wr.size W_27]; exact Z_26
  have AA : OAr Z h_27 ar .byte 34 (fun j => .int ((own_gt aN [dot, b0, b1, b2, b3, b4, b5, b6, b7, b8, b9, b10]) j)) := A_27.congr (fun j hj => by
    rcases (by omega : j < aN ∨ j = aN ∨ j = aN + 1 ∨ j = aN + 2 ∨ j = aN + 3 ∨ j = aN + 4 ∨ j = aN + 5 ∨ j = aN + 6 ∨ j = aN + 7 ∨ j = aN + 8 ∨ j = aN + 9 ∨ j = aN + 10 ∨ j = aN + 11 ∨ aN + 12 ≤ j) with hj2 | hj0 | rfl | rfl | rfl | rfl | rfl | rfl | rfl | rfl | rfl | rfl | rfl | hj2
    · try dsimp only
      rw [own_gt, if_neg (by omega)]; repeat rw [if_neg (by omega)]
    · rw [show own_gt aN [dot, b0, b1, b2, b3, b4, b5, b6, b7, b8, b9, b10] j = dot from by rw [hj0, own_gt, if_pos (Nat.le_refl _), Nat.sub_self]; rfl]
      try dsimp only
      repeat (first | rw [if_neg (by omega)] | (rw [if_pos (by omega)]))
    · try dsimp only
      rw [own_gk]; repeat (first | rw [if_neg (by omega)] | (rw [if_pos (by omega)]; rfl))
    · try dsimp only
      rw [own_gk]; repeat (first | rw [if_neg (by omega)] | (rw [if_pos (by omega)]; rfl))
    · try dsimp only
      rw [own_gk]; repeat (first | rw [if_neg (by omega)] | (rw [if_pos (by omega)]; rfl))
    · try dsimp only
      rw [own_gk]; repeat (first | rw [if_neg (by omega)] | (rw [if_pos (by omega)]; rfl))
    · try dsimp only
      rw [own_gk]; repeat (first | rw [if_neg (by omega)] | (rw [if_pos (by omega)]; rfl))
    · try dsimp only
      rw [own_gk]; repeat (first | rw [if_neg (by omega)] | (rw [if_pos (by omega)]; rfl))
    · try dsimp only
      rw [own_gk]; repeat (first | rw [if_neg (by omega)] | (rw [if_pos (by omega)]; rfl))
    · try dsimp only
      rw [own_gk]; repeat (first | rw [if_neg (by omega)] | (rw [if_pos (by omega)]; rfl))
    · try dsimp only
      rw [own_gk]; repeat (first | rw [if_neg (by omega)] | (rw [if_pos (by omega)]; rfl))
    · try dsimp only
      rw [own_gk]; repeat (first | rw [if_neg (by omega)] | (rw [if_pos (by omega)]; rfl))
    · try dsimp only
      rw [own_gk]; repeat (first | rw [if_neg (by omega)] | (rw [if_pos (by omega)]; rfl))
    · try dsimp only
      rw [own_past _ _ _ (by show aN + 12 ≤ j; exact hj2)]; repeat rw [if_neg (by omega)])
  refine o_aload X_27 K at_277 279 rfl rfl rfl ?_
  refine o_iload X_27 K at_279 281 rfl rfl ?_
  refine o_iload X_27 K at_281 283 rfl rfl ?_
  refine o_invokestatic X_27 K at_283 286 rfl (w_8 hw) (w_9 hw) (w_10 hw) (w_11 hw) (by decide) [(.ref ar), (.int fr), (.int to)] [] rfl  (c_nan l Z a0 hw n0 ar (own_gt aN [dot, b0, b1, b2, b3, b4, b5, b6, b7, b8, b9, b10]) fr to h_27 Z_27 AA (by omega)) e_27 rfl (lenOf pd___BII_I rfl) (by decide) 0 (Nat.le_of_eq rfl) (by decide) (by decide) (by decide) N_27 ?_
  rintro _ T_28 h_28 locs_28 X_28 q_28 ⟨rfl, r_28⟩ N_28
  have e_28 := q_28.trans r_28
  show OGo p e below s n0 _ _ _ (T_28.setTop (mkF m 286 #[.val (.int p0), .val (.int p1), .val (.long p2), .second, .val (.long p3), .second, .val (.int fr), .val (.int to), .val (.int dot), .val (.int b0), .val (.int b1), .val (.int b2), .val (.int b3), .val (.int b4), .val (.int b5), .val (.int b6), .val (.int b7), .val (.int b8), .val (.int b9), .val (.int b10), .val (.ref ar), .val (.int at_), .unset, .unset, .unset] [(.int (own_res (own_gt aN [dot, b0, b1, b2, b3, b4, b5, b6, b7, b8, b9, b10]) (fr.toInt.toNat + 19) to.toInt))]))
  obtain ⟨got, h_got⟩ : ∃ z_ : Int32, z_ = (own_res (own_gt aN [dot, b0, b1, b2, b3, b4, b5, b6, b7, b8, b9, b10]) (fr.toInt.toNat + 19) to.toInt) := ⟨_, rfl⟩
  refine o_istore X_28 K at_286 288 rfl #[.val (.int p0), .val (.int p1), .val (.long p2), .second, .val (.long p3), .second, .val (.int fr), .val (.int to), .val (.int dot), .val (.int b0), .val (.int b1), .val (.int b2), .val (.int b3), .val (.int b4), .val (.int b5), .val (.int b6), .val (.int b7), .val (.int b8), .val (.int b9), .val (.int b10), .val (.ref ar), .val (.int at_), .val (.int got), .unset, .unset] h_got.symm rfl ?_
  rw [← haN] at h_got
  have hgot : got = own_res (own_gt aN [dot, b0, b1, b2, b3, b4, b5, b6, b7, b8, b9, b10]) aN to.toInt := h_got
  refine o_iconst X_28 K (0 : Int32) at_288 289 rfl rfl ?_
  refine o_istore X_28 K at_289 291 rfl #[.val (.int p0), .val (.int p1), .val (.long p2), .second, .val (.long p3), .second, .val (.int fr), .val (.int to), .val (.int dot), .val (.int b0), .val (.int b1), .val (.int b2), .val (.int b3), .val (.int b4), .val (.int b5), .val (.int b6), .val (.int b7), .val (.int b8), .val (.int b9), .val (.int b10), .val (.ref ar), .val (.int at_), .val (.int got), .val (.int (0 : Int32)), .unset] rfl rfl ?_
  refine o_iload X_28 K at_291 293 rfl rfl ?_
  refine o_iload X_28 K at_293 295 rfl rfl ?_
  refine o_icmp_ge X_28 K at_295 770 (by decide) (by decide) 298 rfl (fun hc295 => ?_) (fun hc295 => ?_)
  · have hF : got = 0 := by rw [hgot, own_res, if_neg (by omega)]
    refine o_iload X_28 K at_770 772 rfl rfl ?_
    refine o_iload X_28 K at_772 774 rfl rfl ?_
    refine o_icmp_ne_f X_28 K at_774 777 rfl (hF) ?_
    refine o_iconst X_28 K (1 : Int32) at_777 778 rfl rfl ?_
    refine o_goto X_28 K at_778 782 (by decide) (by decide) ?_
    refine o_ireturnN X_28 K (by decide) at_782 (by decide) (by decide) N_28 ?_
    exact rfl
  · refine o_iload X_28 K at_298 300 rfl rfl ?_
    refine o_bipush X_28 K (46 : Int32) at_300 302 rfl rfl ?_
    refine o_icmp_ne X_28 K at_302 770 (by decide) (by decide) 305 rfl (fun hc302 => ?_) (fun hc302 => ?_)
    · have hF : got = 0 := by rw [hgot, own_res, if_neg (fun z => hc302 (by have q := z.2; rwa [own_gz] at q))]
      refine o_iload X_28 K at_770 772 rfl rfl ?_
      refine o_iload X_28 K at_772 774 rfl rfl ?_
      refine o_icmp_ne_f X_28 K at_774 777 rfl (hF) ?_
      refine o_iconst X_28 K (1 : Int32) at_777 778 rfl rfl ?_
      refine o_goto X_28 K at_778 782 (by decide) (by decide) ?_
      refine o_ireturnN X_28 K (by decide) at_782 (by decide) (by decide) N_28 ?_
      exact rfl
    · refine o_iconst X_28 K (1 : Int32) at_305 306 rfl rfl ?_
      refine o_istore X_28 K at_306 308 rfl #[.val (.int p0), .val (.int p1), .val (.long p2), .second, .val (.long p3), .second, .val (.int fr), .val (.int to), .val (.int dot), .val (.int b0), .val (.int b1), .val (.int b2), .val (.int b3), .val (.int b4), .val (.int b5), .val (.int b6), .val (.int b7), .val (.int b8), .val (.int b9), .val (.int b10), .val (.ref ar), .val (.int at_), .val (.int got), .val (.int (0 : Int32)), .val (.int (1 : Int32))] rfl rfl ?_
      have hg1 : at_.toInt + 1 ≤ to.toInt ∧ own_nan (own_gt aN [dot, b0, b1, b2, b3, b4, b5, b6, b7, b8, b9, b10]) (to.toInt - (aN + 1)).toNat (aN + 1) 100000000 0 = got := ⟨by omega, by rw [hgot, own_res, if_pos ⟨by omega, by rw [own_gz]; exact hc302⟩]⟩
      refine o_join (fun (t : State × List Loc × Int32 × Int32) => t.1.setTop (mkF m 359 #[.val (.int p0), .val (.int p1), .val (.long p2), .second, .val (.long p3), .second, .val (.int fr), .val (.int to), .val (.int dot), .val (.int b0), .val (.int b1), .val (.int b2), .val (.int b3), .val (.int b4), .val (.int b5), .val (.int b6), .val (.int b7), .val (.int b8), .val (.int b9), .val (.int b10), .val (.ref ar), .val (.int at_), .val (.int got), .val (.int t.2.2.2), .val (.int t.2.2.1)] [])) (fun t => Stand p l e room_1 s m #[(.int p0), (.int p1), (.long p2), (.long p3)] below meth c t.1 t.2.1 1 34 ∧ t.1.heap = h_27 ∧ Fr n0 t.2.1 ∧ ((t.2.2.1 = 1 ∧ at_.toInt + 2 ≤ to.toInt ∧ own_nan (own_gt aN [dot, b0, b1, b2, b3, b4, b5, b6, b7, b8, b9, b10]) (to.toInt - (aN + 2)).toNat (aN + 2) 10000000 t.2.2.2 = got) ∨ (t.2.2.1 = 0 ∧ t.2.2.2 = got))) (fun KJ => ?_) ?_
      · refine o_iload X_28 K at_308 310 rfl rfl ?_
        refine o_if_eq_f X_28 K at_310 313 rfl (by decide) ?_
        refine o_iload X_28 K at_313 315 rfl rfl ?_
        refine o_iconst X_28 K (1 : Int32) at_315 316 rfl rfl ?_
        refine o_iadd X_28 K at_316 317 rfl ?_
        refine o_iload X_28 K at_317 319 rfl rfl ?_
        have ha1 : (at_ + (1 : Int32)).toInt = at_.toInt + 1 := by have q1 := c_iadd at_ 1; have q2 := rng32 (at_ + 1); omega
        refine o_icmp_ge X_28 K at_319 334 (by decide) (by decide) 322 rfl (fun hc319 => ?_) (fun hc319 => ?_)
        · refine o_iconst X_28 K (0 : Int32) at_334 335 rfl rfl ?_
          refine o_istore X_28 K at_335 337 rfl #[.val (.int p0), .val (.int p1), .val (.long p2), .second, .val (.long p3), .second, .val (.int fr), .val (.int to), .val (.int dot), .val (.int b0), .val (.int b1), .val (.int b2), .val (.int b3), .val (.int b4), .val (.int b5), .val (.int b6), .val (.int b7), .val (.int b8), .val (.int b9), .val (.int b10), .val (.ref ar), .val (.int at_), .val (.int got), .val (.int (0 : Int32)), .val (.int (0 : Int32))] rfl rfl ?_
          refine o_iload X_28 K at_337 339 rfl rfl ?_
          refine o_iload X_28 K at_339 341 rfl rfl ?_
          refine o_if_eq_t X_28 K at_341 355 (by decide) (by decide) (by decide) ?_
          refine o_iconst X_28 K (0 : Int32) at_355 356 rfl rfl ?_
          refine o_iadd X_28 K at_356 357 rfl ?_
          refine o_istore X_28 K at_357 359 rfl #[.val (.int p0), .val (.int p1), .val (.long p2), .second, .val (.long p3), .second, .val (.int fr), .val (.int to), .val (.int dot), .val (.int b0), .val (.int b1), .val (.int b2), .val (.int b3), .val (.int b4), .val (.int b5), .val (.int b6), .val (.int b7), .val (.int b8), .val (.int b9), .val (.int b10), .val (.ref ar), .val (.int at_), .val (.int got), .val (.int ((0 : Int32) + (0 : Int32))), .val (.int (0 : Int32))] rfl rfl ?_
          have hz : (0 : Int32) = got := by have q := hg1.2; rw [show (to.toInt - (aN + 1)).toNat = 0 from by omega] at q; exact q
          exact KJ (T_28, _, (0 : Int32), ((0 : Int32) + (0 : Int32))) ⟨X_28, e_28, N_28, Or.inr ⟨rfl, by rw [Int32.add_zero]; exact hz⟩⟩
        · refine o_iload X_28 K at_322 324 rfl rfl ?_
          refine o_invokestatic X_28 K at_324 327 rfl (w_16 hw) (w_17 hw) (w_2 hw) (w_18 hw) (by decide) [(.int b0)] [] rfl  (c_dig2 l Z a0 hw n0 b0 h_27 Z_27) e_28 rfl (lenOf pd__B_Z rfl) (by decide) 0 (Nat.le_of_eq rfl) (by decide) (by decide) (by decide) N_28 ?_
          rintro _ T_29 h_29 locs_29 X_29 q_29 ⟨rv_29, rfl, hb_29, r_29⟩ N_29
          have e_29 := q_29.trans r_29
          show OGo p e below s n0 _ _ _ (T_29.setTop (mkF m 327 #[.val (.int p0), .val (.int p1), .val (.long p2), .second, .val (.long p3), .second, .val (.int fr), .val (.int to), .val (.int dot), .val (.int b0), .val (.int b1), .val (.int b2), .val (.int b3), .val (.int b4), .val (.int b5), .val (.int b6), .val (.int b7), .val (.int b8), .val (.int b9), .val (.int b10), .val (.ref ar), .val (.int at_), .val (.int got), .val (.int (0 : Int32)), .val (.int (1 : Int32))] [(.int rv_29)]))
          rcases hb_29 with ⟨rfl, hr_rv_29⟩ | ⟨rfl, hr_rv_29⟩
          · skip
            refine o_if_eq_f X_29 K at_327 330 rfl (by decide) ?_
            refine o_iconst X_29 K (1 : Int32) at_330 331 rfl rfl ?_
            refine o_goto X_29 K at_331 335 (by decide) (by decide) ?_
            refine o_istore X_29 K at_335 337 rfl #[.val (.int p0), .val (.int p1), .val (.long p2), .second, .val (.long p3), .second, .val (.int fr), .val (.int to), .val (.int dot), .val (.int b0), .val (.int b1), .val (.int b2), .val (.int b3), .val (.int b4), .val (.int b5), .val (.int b6), .val (.int b7), .val (.int b8), .val (.int b9), .val (.int b10), .val (.ref ar), .val (.int at_), .val (.int got), .val (.int (0 : Int32)), .val (.int (1 : Int32))] rfl rfl ?_
            refine o_iload X_29 K at_337 339 rfl rfl ?_
            refine o_iload X_29 K at_339 341 rfl rfl ?_
            refine o_if_eq_f X_29 K at_341 344 rfl (by decide) ?_
            refine o_iload X_29 K at_344 346 rfl rfl ?_
            refine o_bipush X_29 K (48 : Int32) at_346 348 rfl rfl ?_
            refine o_isub X_29 K at_348 349 rfl ?_
            refine o_ldcI X_29 K at_349 351 rfl (w_19 hw) ?_
            refine o_imul X_29 K at_351 352 rfl ?_
            refine o_goto X_29 K at_352 356 (by decide) (by decide) ?_
            refine o_iadd X_29 K at_356 357 rfl ?_
            refine o_istore X_29 K at_357 359 rfl #[.val (.int p0), .val (.int p1), .val (.long p2), .second, .val (.long p3), .second, .val (.int fr), .val (.int to), .val (.int dot), .val (.int b0), .val (.int b1), .val (.int b2), .val (.int b3), .val (.int b4), .val (.int b5), .val (.int b6), .val (.int b7), .val (.int b8), .val (.int b9), .val (.int b10), .val (.ref ar), .val (.int at_), .val (.int got), .val (.int ((0 : Int32) + ((b0 - (48 : Int32)) * (100000000 : Int32)))), .val (.int (1 : Int32))] rfl rfl ?_
            have hz := hg1.2
            rw [show (to.toInt - (aN + 1)).toNat = (to.toInt - (aN + 2)).toNat + 1 from by omega, own_nan, own_gk] at hz
            replace hz : (if 48 ≤ b0.toInt ∧ b0.toInt ≤ 57 then own_nan (own_gt aN [dot, b0, b1, b2, b3, b4, b5, b6, b7, b8, b9, b10]) (to.toInt - (aN + 2)).toNat (aN + 1 + 1) ((100000000 : Int32) / 10) ((0 : Int32) + (b0 - 48) * 100000000) else (0 : Int32)) = got := hz
            rw [if_pos (by omega), show ((100000000 : Int32) / 10) = 10000000 from by decide] at hz
            exact KJ (T_29, _, (1 : Int32), ((0 : Int32) + ((b0 - (48 : Int32)) * (100000000 : Int32)))) ⟨X_29, e_29, N_29, Or.inl ⟨rfl, by omega, hz⟩⟩
          · skip
            refine o_if_eq_t X_29 K at_327 334 (by decide) (by decide) (by decide) ?_
            refine o_iconst X_29 K (0 : Int32) at_334 335 rfl rfl ?_
            refine o_istore X_29 K at_335 337 rfl #[.val (.int p0), .val (.int p1), .val (.long p2), .second, .val (.long p3), .second, .val (.int fr), .val (.int to), .val (.int dot), .val (.int b0), .val (.int b1), .val (.int b2), .val (.int b3), .val (.int b4), .val (.int b5), .val (.int b6), .val (.int b7), .val (.int b8), .val (.int b9), .val (.int b10), .val (.ref ar), .val (.int at_), .val (.int got), .val (.int (0 : Int32)), .val (.int (0 : Int32))] rfl rfl ?_
            refine o_iload X_29 K at_337 339 rfl rfl ?_
            refine o_iload X_29 K at_339 341 rfl rfl ?_
            refine o_if_eq_t X_29 K at_341 355 (by decide) (by decide) (by decide) ?_
            refine o_iconst X_29 K (0 : Int32) at_355 356 rfl rfl ?_
            refine o_iadd X_29 K at_356 357 rfl ?_
            refine o_istore X_29 K at_357 359 rfl #[.val (.int p0), .val (.int p1), .val (.long p2), .second, .val (.long p3), .second, .val (.int fr), .val (.int to), .val (.int dot), .val (.int b0), .val (.int b1), .val (.int b2), .val (.int b3), .val (.int b4), .val (.int b5), .val (.int b6), .val (.int b7), .val (.int b8), .val (.int b9), .val (.int b10), .val (.ref ar), .val (.int at_), .val (.int got), .val (.int ((0 : Int32) + (0 : Int32))), .val (.int (0 : Int32))] rfl rfl ?_
            have hz := hg1.2
            rw [show (to.toInt - (aN + 1)).toNat = (to.toInt - (aN + 2)).toNat + 1 from by omega, own_nan, own_gk] at hz
            replace hz : (if 48 ≤ b0.toInt ∧ b0.toInt ≤ 57 then own_nan (own_gt aN [dot, b0, b1, b2, b3, b4, b5, b6, b7, b8, b9, b10]) (to.toInt - (aN + 2)).toNat (aN + 1 + 1) ((100000000 : Int32) / 10) ((0 : Int32) + (b0 - 48) * 100000000) else (0 : Int32)) = got := hz
            rw [if_neg (by omega)] at hz
            exact KJ (T_29, _, (0 : Int32), ((0 : Int32) + (0 : Int32))) ⟨X_29, e_29, N_29, Or.inr ⟨rfl, by rw [Int32.add_zero]; exact hz⟩⟩
      rintro ⟨T_30, locs_30, al2, wt2⟩ ⟨X_30, e_30, N_30, hP2⟩
      dsimp only at X_30 e_30 N_30 hP2
      show OGo p e below s n0 _ _ _ (T_30.setTop (mkF m 359 #[.val (.int p0), .val (.int p1), .val (.long p2), .second, .val (.long p3), .second, .val (.int fr), .val (.int to), .val (.int dot), .val (.int b0), .val (.int b1), .val (.int b2), .val (.int b3), .val (.int b4), .val (.int b5), .val (.int b6), .val (.int b7), .val (.int b8), .val (.int b9), .val (.int b10), .val (.ref ar), .val (.int at_), .val (.int got), .val (.int wt2), .val (.int al2)] []))
      refine o_join (fun (t : State × List Loc × Int32 × Int32) => t.1.setTop (mkF m 410 #[.val (.int p0), .val (.int p1), .val (.long p2), .second, .val (.long p3), .second, .val (.int fr), .val (.int to), .val (.int dot), .val (.int b0), .val (.int b1), .val (.int b2), .val (.int b3), .val (.int b4), .val (.int b5), .val (.int b6), .val (.int b7), .val (.int b8), .val (.int b9), .val (.int b10), .val (.ref ar), .val (.int at_), .val (.int got), .val (.int t.2.2.2), .val (.int t.2.2.1)] [])) (fun t => Stand p l e room_1 s m #[(.int p0), (.int p1), (.long p2), (.long p3)] below meth c t.1 t.2.1 1 34 ∧ t.1.heap = h_27 ∧ Fr n0 t.2.1 ∧ ((t.2.2.1 = 1 ∧ at_.toInt + 3 ≤ to.toInt ∧ own_nan (own_gt aN [dot, b0, b1, b2, b3, b4, b5, b6, b7, b8, b9, b10]) (to.toInt - (aN + 3)).toNat (aN + 3) 1000000 t.2.2.2 = got) ∨ (t.2.2.1 = 0 ∧ t.2.2.2 = got))) (fun KJ => ?_) ?_
      · rcases hP2 with ⟨rfl, hg2⟩ | ⟨rfl, hg2⟩
        · skip
          refine o_iload X_30 K at_359 361 rfl rfl ?_
          refine o_if_eq_f X_30 K at_361 364 rfl (by decide) ?_
          refine o_iload X_30 K at_364 366 rfl rfl ?_
          refine o_iconst X_30 K (2 : Int32) at_366 367 rfl rfl ?_
          refine o_iadd X_30 K at_367 368 rfl ?_
          refine o_iload X_30 K at_368 370 rfl rfl ?_
          have ha2 : (at_ + (2 : Int32)).toInt = at_.toInt + 2 := by have q1 := c_iadd at_ 2; have q2 := rng32 (at_ + 2); omega
          refine o_icmp_ge X_30 K at_370 385 (by decide) (by decide) 373 rfl (fun hc370 => ?_) (fun hc370 => ?_)
          · refine o_iconst X_30 K (0 : Int32) at_385 386 rfl rfl ?_
            refine o_istore X_30 K at_386 388 rfl #[.val (.int p0), .val (.int p1), .val (.long p2), .second, .val (.long p3), .second, .val (.int fr), .val (.int to), .val (.int dot), .val (.int b0), .val (.int b1), .val (.int b2), .val (.int b3), .val (.int b4), .val (.int b5), .val (.int b6), .val (.int b7), .val (.int b8), .val (.int b9), .val (.int b10), .val (.ref ar), .val (.int at_), .val (.int got), .val (.int wt2), .val (.int (0 : Int32))] rfl rfl ?_
            refine o_iload X_30 K at_388 390 rfl rfl ?_
            refine o_iload X_30 K at_390 392 rfl rfl ?_
            refine o_if_eq_t X_30 K at_392 406 (by decide) (by decide) (by decide) ?_
            refine o_iconst X_30 K (0 : Int32) at_406 407 rfl rfl ?_
            refine o_iadd X_30 K at_407 408 rfl ?_
            refine o_istore X_30 K at_408 410 rfl #[.val (.int p0), .val (.int p1), .val (.long p2), .second, .val (.long p3), .second, .val (.int fr), .val (.int to), .val (.int dot), .val (.int b0), .val (.int b1), .val (.int b2), .val (.int b3), .val (.int b4), .val (.int b5), .val (.int b6), .val (.int b7), .val (.int b8), .val (.int b9), .val (.int b10), .val (.ref ar), .val (.int at_), .val (.int got), .val (.int (wt2 + (0 : Int32))), .val (.int (0 : Int32))] rfl rfl ?_
            have hz : wt2 = got := by have q := hg2.2; rw [show (to.toInt - (aN + 2)).toNat = 0 from by omega] at q; exact q
            exact KJ (T_30, _, (0 : Int32), (wt2 + (0 : Int32))) ⟨X_30, e_30, N_30, Or.inr ⟨rfl, by rw [Int32.add_zero]; exact hz⟩⟩
          · refine o_iload X_30 K at_373 375 rfl rfl ?_
            refine o_invokestatic X_30 K at_375 378 rfl (w_16 hw) (w_17 hw) (w_2 hw) (w_18 hw) (by decide) [(.int b1)] [] rfl  (c_dig2 l Z a0 hw n0 b1 h_27 Z_27) e_30 rfl (lenOf pd__B_Z rfl) (by decide) 0 (Nat.le_of_eq rfl) (by decide) (by decide) (by decide) N_30 ?_
            rintro _ T_31 h_31 locs_31 X_31 q_31 ⟨rv_31, rfl, hb_31, r_31⟩ N_31
            have e_31 := q_31.trans r_31
            show OGo p e below s n0 _ _ _ (T_31.setTop (mkF m 378 #[.val (.int p0), .val (.int p1), .val (.long p2), .second, .val (.long p3), .second, .val (.int fr), .val (.int to), .val (.int dot), .val (.int b0), .val (.int b1), .val (.int b2), .val (.int b3), .val (.int b4), .val (.int b5), .val (.int b6), .val (.int b7), .val (.int b8), .val (.int b9), .val (.int b10), .val (.ref ar), .val (.int at_), .val (.int got), .val (.int wt2), .val (.int (1 : Int32))] [(.int rv_31)]))
            rcases hb_31 with ⟨rfl, hr_rv_31⟩ | ⟨rfl, hr_rv_31⟩
            · skip
              refine o_if_eq_f X_31 K at_378 381 rfl (by decide) ?_
              refine o_iconst X_31 K (1 : Int32) at_381 382 rfl rfl ?_
              refine o_goto X_31 K at_382 386 (by decide) (by decide) ?_
              refine o_istore X_31 K at_386 388 rfl #[.val (.int p0), .val (.int p1), .val (.long p2), .second, .val (.long p3), .second, .val (.int fr), .val (.int to), .val (.int dot), .val (.int b0), .val (.int b1), .val (.int b2), .val (.int b3), .val (.int b4), .val (.int b5), .val (.int b6), .val (.int b7), .val (.int b8), .val (.int b9), .val (.int b10), .val (.ref ar), .val (.int at_), .val (.int got), .val (.int wt2), .val (.int (1 : Int32))] rfl rfl ?_
              refine o_iload X_31 K at_388 390 rfl rfl ?_
              refine o_iload X_31 K at_390 392 rfl rfl ?_
              refine o_if_eq_f X_31 K at_392 395 rfl (by decide) ?_
              refine o_iload X_31 K at_395 397 rfl rfl ?_
              refine o_bipush X_31 K (48 : Int32) at_397 399 rfl rfl ?_
              refine o_isub X_31 K at_399 400 rfl ?_
              refine o_ldcI X_31 K at_400 402 rfl (w_20 hw) ?_
              refine o_imul X_31 K at_402 403 rfl ?_
              refine o_goto X_31 K at_403 407 (by decide) (by decide) ?_
              refine o_iadd X_31 K at_407 408 rfl ?_
              refine o_istore X_31 K at_408 410 rfl #[.val (.int p0), .val (.int p1), .val (.long p2), .second, .val (.long p3), .second, .val (.int fr), .val (.int to), .val (.int dot), .val (.int b0), .val (.int b1), .val (.int b2), .val (.int b3), .val (.int b4), .val (.int b5), .val (.int b6), .val (.int b7), .val (.int b8), .val (.int b9), .val (.int b10), .val (.ref ar), .val (.int at_), .val (.int got), .val (.int (wt2 + ((b1 - (48 : Int32)) * (10000000 : Int32)))), .val (.int (1 : Int32))] rfl rfl ?_
              have hz := hg2.2
              rw [show (to.toInt - (aN + 2)).toNat = (to.toInt - (aN + 3)).toNat + 1 from by omega, own_nan, own_gk] at hz
              replace hz : (if 48 ≤ b1.toInt ∧ b1.toInt ≤ 57 then own_nan (own_gt aN [dot, b0, b1, b2, b3, b4, b5, b6, b7, b8, b9, b10]) (to.toInt - (aN + 3)).toNat (aN + 2 + 1) ((10000000 : Int32) / 10) (wt2 + (b1 - 48) * 10000000) else wt2) = got := hz
              rw [if_pos (by omega), show ((10000000 : Int32) / 10) = 1000000 from by decide] at hz
              exact KJ (T_31, _, (1 : Int32), (wt2 + ((b1 - (48 : Int32)) * (10000000 : Int32)))) ⟨X_31, e_31, N_31, Or.inl ⟨rfl, by omega, hz⟩⟩
            · skip
              refine o_if_eq_t X_31 K at_378 385 (by decide) (by decide) (by decide) ?_
              refine o_iconst X_31 K (0 : Int32) at_385 386 rfl rfl ?_
              refine o_istore X_31 K at_386 388 rfl #[.val (.int p0), .val (.int p1), .val (.long p2), .second, .val (.long p3), .second, .val (.int fr), .val (.int to), .val (.int dot), .val (.int b0), .val (.int b1), .val (.int b2), .val (.int b3), .val (.int b4), .val (.int b5), .val (.int b6), .val (.int b7), .val (.int b8), .val (.int b9), .val (.int b10), .val (.ref ar), .val (.int at_), .val (.int got), .val (.int wt2), .val (.int (0 : Int32))] rfl rfl ?_
              refine o_iload X_31 K at_388 390 rfl rfl ?_
              refine o_iload X_31 K at_390 392 rfl rfl ?_
              refine o_if_eq_t X_31 K at_392 406 (by decide) (by decide) (by decide) ?_
              refine o_iconst X_31 K (0 : Int32) at_406 407 rfl rfl ?_
              refine o_iadd X_31 K at_407 408 rfl ?_
              refine o_istore X_31 K at_408 410 rfl #[.val (.int p0), .val (.int p1), .val (.long p2), .second, .val (.long p3), .second, .val (.int fr), .val (.int to), .val (.int dot), .val (.int b0), .val (.int b1), .val (.int b2), .val (.int b3), .val (.int b4), .val (.int b5), .val (.int b6), .val (.int b7), .val (.int b8), .val (.int b9), .val (.int b10), .val (.ref ar), .val (.int at_), .val (.int got), .val (.int (wt2 + (0 : Int32))), .val (.int (0 : Int32))] rfl rfl ?_
              have hz := hg2.2
              rw [show (to.toInt - (aN + 2)).toNat = (to.toInt - (aN + 3)).toNat + 1 from by omega, own_nan, own_gk] at hz
              replace hz : (if 48 ≤ b1.toInt ∧ b1.toInt ≤ 57 then own_nan (own_gt aN [dot, b0, b1, b2, b3, b4, b5, b6, b7, b8, b9, b10]) (to.toInt - (aN + 3)).toNat (aN + 2 + 1) ((10000000 : Int32) / 10) (wt2 + (b1 - 48) * 10000000) else wt2) = got := hz
              rw [if_neg (by omega)] at hz
              exact KJ (T_31, _, (0 : Int32), (wt2 + (0 : Int32))) ⟨X_31, e_31, N_31, Or.inr ⟨rfl, by rw [Int32.add_zero]; exact hz⟩⟩
        · skip
          refine o_iload X_30 K at_359 361 rfl rfl ?_
          refine o_if_eq_t X_30 K at_361 385 (by decide) (by decide) (by decide) ?_
          refine o_iconst X_30 K (0 : Int32) at_385 386 rfl rfl ?_
          refine o_istore X_30 K at_386 388 rfl #[.val (.int p0), .val (.int p1), .val (.long p2), .second, .val (.long p3), .second, .val (.int fr), .val (.int to), .val (.int dot), .val (.int b0), .val (.int b1), .val (.int b2), .val (.int b3), .val (.int b4), .val (.int b5), .val (.int b6), .val (.int b7), .val (.int b8), .val (.int b9), .val (.int b10), .val (.ref ar), .val (.int at_), .val (.int got), .val (.int wt2), .val (.int (0 : Int32))] rfl rfl ?_
          refine o_iload X_30 K at_388 390 rfl rfl ?_
          refine o_iload X_30 K at_390 392 rfl rfl ?_
          refine o_if_eq_t X_30 K at_392 406 (by decide) (by decide) (by decide) ?_
          refine o_iconst X_30 K (0 : Int32) at_406 407 rfl rfl ?_
          refine o_iadd X_30 K at_407 408 rfl ?_
          refine o_istore X_30 K at_408 410 rfl #[.val (.int p0), .val (.int p1), .val (.long p2), .second, .val (.long p3), .second, .val (.int fr), .val (.int to), .val (.int dot), .val (.int b0), .val (.int b1), .val (.int b2), .val (.int b3), .val (.int b4), .val (.int b5), .val (.int b6), .val (.int b7), .val (.int b8), .val (.int b9), .val (.int b10), .val (.ref ar), .val (.int at_), .val (.int got), .val (.int (wt2 + (0 : Int32))), .val (.int (0 : Int32))] rfl rfl ?_
          exact KJ (T_30, _, (0 : Int32), (wt2 + (0 : Int32))) ⟨X_30, e_30, N_30, Or.inr ⟨rfl, by rw [Int32.add_zero]; exact hg2⟩⟩
      rintro ⟨T_32, locs_32, al3, wt3⟩ ⟨X_32, e_32, N_32, hP3⟩
      dsimp only at X_32 e_32 N_32 hP3
      show OGo p e below s n0 _ _ _ (T_32.setTop (mkF m 410 #[.val (.int p0), .val (.int p1), .val (.long p2), .second, .val (.long p3), .second, .val (.int fr), .val (.int to), .val (.int dot), .val (.int b0), .val (.int b1), .val (.int b2), .val (.int b3), .val (.int b4), .val (.int b5), .val (.int b6), .val (.int b7), .val (.int b8), .val (.int b9), .val (.int b10), .val (.ref ar), .val (.int at_), .val (.int got), .val (.int wt3), .val (.int al3)] []))
      refine o_join (fun (t : State × List Loc × Int32 × Int32) => t.1.setTop (mkF m 461 #[.val (.int p0), .val (.int p1), .val (.long p2), .second, .val (.long p3), .second, .val (.int fr), .val (.int to), .val (.int dot), .val (.int b0), .val (.int b1), .val (.int b2), .val (.int b3), .val (.int b4), .val (.int b5), .val (.int b6), .val (.int b7), .val (.int b8), .val (.int b9), .val (.int b10), .val (.ref ar), .val (.int at_), .val (.int got), .val (.int t.2.2.2), .val (.int t.2.2.1)] [])) (fun t => Stand p l e room_1 s m #[(.int p0), (.int p1), (.long p2), (.long p3)] below meth c t.1 t.2.1 1 34 ∧ t.1.heap = h_27 ∧ Fr n0 t.2.1 ∧ ((t.2.2.1 = 1 ∧ at_.toInt + 4 ≤ to.toInt ∧ own_nan (own_gt aN [dot, b0, b1, b2, b3, b4, b5, b6, b7, b8, b9, b10]) (to.toInt - (aN + 4)).toNat (aN + 4) 100000 t.2.2.2 = got) ∨ (t.2.2.1 = 0 ∧ t.2.2.2 = got))) (fun KJ => ?_) ?_
      · rcases hP3 with ⟨rfl, hg3⟩ | ⟨rfl, hg3⟩
        · skip
          refine o_iload X_32 K at_410 412 rfl rfl ?_
          refine o_if_eq_f X_32 K at_412 415 rfl (by decide) ?_
          refine o_iload X_32 K at_415 417 rfl rfl ?_
          refine o_iconst X_32 K (3 : Int32) at_417 418 rfl rfl ?_
          refine o_iadd X_32 K at_418 419 rfl ?_
          refine o_iload X_32 K at_419 421 rfl rfl ?_
          have ha3 : (at_ + (3 : Int32)).toInt = at_.toInt + 3 := by have q1 := c_iadd at_ 3; have q2 := rng32 (at_ + 3); omega
          refine o_icmp_ge X_32 K at_421 436 (by decide) (by decide) 424 rfl (fun hc421 => ?_) (fun hc421 => ?_)
          · refine o_iconst X_32 K (0 : Int32) at_436 437 rfl rfl ?_
            refine o_istore X_32 K at_437 439 rfl #[.val (.int p0), .val (.int p1), .val (.long p2), .second, .val (.long p3), .second, .val (.int fr), .val (.int to), .val (.int dot), .val (.int b0), .val (.int b1), .val (.int b2), .val (.int b3), .val (.int b4), .val (.int b5), .val (.int b6), .val (.int b7), .val (.int b8), .val (.int b9), .val (.int b10), .val (.ref ar), .val (.int at_), .val (.int got), .val (.int wt3), .val (.int (0 : Int32))] rfl rfl ?_
            refine o_iload X_32 K at_439 441 rfl rfl ?_
            refine o_iload X_32 K at_441 443 rfl rfl ?_
            refine o_if_eq_t X_32 K at_443 457 (by decide) (by decide) (by decide) ?_
            refine o_iconst X_32 K (0 : Int32) at_457 458 rfl rfl ?_
            refine o_iadd X_32 K at_458 459 rfl ?_
            refine o_istore X_32 K at_459 461 rfl #[.val (.int p0), .val (.int p1), .val (.long p2), .second, .val (.long p3), .second, .val (.int fr), .val (.int to), .val (.int dot), .val (.int b0), .val (.int b1), .val (.int b2), .val (.int b3), .val (.int b4), .val (.int b5), .val (.int b6), .val (.int b7), .val (.int b8), .val (.int b9), .val (.int b10), .val (.ref ar), .val (.int at_), .val (.int got), .val (.int (wt3 + (0 : Int32))), .val (.int (0 : Int32))] rfl rfl ?_
            have hz : wt3 = got := by have q := hg3.2; rw [show (to.toInt - (aN + 3)).toNat = 0 from by omega] at q; exact q
            exact KJ (T_32, _, (0 : Int32), (wt3 + (0 : Int32))) ⟨X_32, e_32, N_32, Or.inr ⟨rfl, by rw [Int32.add_zero]; exact hz⟩⟩
          · refine o_iload X_32 K at_424 426 rfl rfl ?_
            refine o_invokestatic X_32 K at_426 429 rfl (w_16 hw) (w_17 hw) (w_2 hw) (w_18 hw) (by decide) [(.int b2)] [] rfl  (c_dig2 l Z a0 hw n0 b2 h_27 Z_27) e_32 rfl (lenOf pd__B_Z rfl) (by decide) 0 (Nat.le_of_eq rfl) (by decide) (by decide) (by decide) N_32 ?_
            rintro _ T_33 h_33 locs_33 X_33 q_33 ⟨rv_33, rfl, hb_33, r_33⟩ N_33
            have e_33 := q_33.trans r_33
            show OGo p e below s n0 _ _ _ (T_33.setTop (mkF m 429 #[.val (.int p0), .val (.int p1), .val (.long p2), .second, .val (.long p3), .second, .val (.int fr), .val (.int to), .val (.int dot), .val (.int b0), .val (.int b1), .val (.int b2), .val (.int b3), .val (.int b4), .val (.int b5), .val (.int b6), .val (.int b7), .val (.int b8), .val (.int b9), .val (.int b10), .val (.ref ar), .val (.int at_), .val (.int got), .val (.int wt3), .val (.int (1 : Int32))] [(.int rv_33)]))
            rcases hb_33 with ⟨rfl, hr_rv_33⟩ | ⟨rfl, hr_rv_33⟩
            · skip
              refine o_if_eq_f X_33 K at_429 432 rfl (by decide) ?_
              refine o_iconst X_33 K (1 : Int32) at_432 433 rfl rfl ?_
              refine o_goto X_33 K at_433 437 (by decide) (by decide) ?_
              refine o_istore X_33 K at_437 439 rfl #[.val (.int p0), .val (.int p1), .val (.long p2), .second, .val (.long p3), .second, .val (.int fr), .val (.int to), .val (.int dot), .val (.int b0), .val (.int b1), .val (.int b2), .val (.int b3), .val (.int b4), .val (.int b5), .val (.int b6), .val (.int b7), .val (.int b8), .val (.int b9), .val (.int b10), .val (.ref ar), .val (.int at_), .val (.int got), .val (.int wt3), .val (.int (1 : Int32))] rfl rfl ?_
              refine o_iload X_33 K at_439 441 rfl rfl ?_
              refine o_iload X_33 K at_441 443 rfl rfl ?_
              refine o_if_eq_f X_33 K at_443 446 rfl (by decide) ?_
              refine o_iload X_33 K at_446 448 rfl rfl ?_
              refine o_bipush X_33 K (48 : Int32) at_448 450 rfl rfl ?_
              refine o_isub X_33 K at_450 451 rfl ?_
              refine o_ldcI X_33 K at_451 453 rfl (w_21 hw) ?_
              refine o_imul X_33 K at_453 454 rfl ?_
              refine o_goto X_33 K at_454 458 (by decide) (by decide) ?_
              refine o_iadd X_33 K at_458 459 rfl ?_
              refine o_istore X_33 K at_459 461 rfl #[.val (.int p0), .val (.int p1), .val (.long p2), .second, .val (.long p3), .second, .val (.int fr), .val (.int to), .val (.int dot), .val (.int b0), .val (.int b1), .val (.int b2), .val (.int b3), .val (.int b4), .val (.int b5), .val (.int b6), .val (.int b7), .val (.int b8), .val (.int b9), .val (.int b10), .val (.ref ar), .val (.int at_), .val (.int got), .val (.int (wt3 + ((b2 - (48 : Int32)) * (1000000 : Int32)))), .val (.int (1 : Int32))] rfl rfl ?_
              have hz := hg3.2
              rw [show (to.toInt - (aN + 3)).toNat = (to.toInt - (aN + 4)).toNat + 1 from by omega, own_nan, own_gk] at hz
              replace hz : (if 48 ≤ b2.toInt ∧ b2.toInt ≤ 57 then own_nan (own_gt aN [dot, b0, b1, b2, b3, b4, b5, b6, b7, b8, b9, b10]) (to.toInt - (aN + 4)).toNat (aN + 3 + 1) ((1000000 : Int32) / 10) (wt3 + (b2 - 48) * 1000000) else wt3) = got := hz
              rw [if_pos (by omega), show ((1000000 : Int32) / 10) = 100000 from by decide] at hz
              exact KJ (T_33, _, (1 : Int32), (wt3 + ((b2 - (48 : Int32)) * (1000000 : Int32)))) ⟨X_33, e_33, N_33, Or.inl ⟨rfl, by omega, hz⟩⟩
            · skip
              refine o_if_eq_t X_33 K at_429 436 (by decide) (by decide) (by decide) ?_
              refine o_iconst X_33 K (0 : Int32) at_436 437 rfl rfl ?_
              refine o_istore X_33 K at_437 439 rfl #[.val (.int p0), .val (.int p1), .val (.long p2), .second, .val (.long p3), .second, .val (.int fr), .val (.int to), .val (.int dot), .val (.int b0), .val (.int b1), .val (.int b2), .val (.int b3), .val (.int b4), .val (.int b5), .val (.int b6), .val (.int b7), .val (.int b8), .val (.int b9), .val (.int b10), .val (.ref ar), .val (.int at_), .val (.int got), .val (.int wt3), .val (.int (0 : Int32))] rfl rfl ?_
              refine o_iload X_33 K at_439 441 rfl rfl ?_
              refine o_iload X_33 K at_441 443 rfl rfl ?_
              refine o_if_eq_t X_33 K at_443 457 (by decide) (by decide) (by decide) ?_
              refine o_iconst X_33 K (0 : Int32) at_457 458 rfl rfl ?_
              refine o_iadd X_33 K at_458 459 rfl ?_
              refine o_istore X_33 K at_459 461 rfl #[.val (.int p0), .val (.int p1), .val (.long p2), .second, .val (.long p3), .second, .val (.int fr), .val (.int to), .val (.int dot), .val (.int b0), .val (.int b1), .val (.int b2), .val (.int b3), .val (.int b4), .val (.int b5), .val (.int b6), .val (.int b7), .val (.int b8), .val (.int b9), .val (.int b10), .val (.ref ar), .val (.int at_), .val (.int got), .val (.int (wt3 + (0 : Int32))), .val (.int (0 : Int32))] rfl rfl ?_
              have hz := hg3.2
              rw [show (to.toInt - (aN + 3)).toNat = (to.toInt - (aN + 4)).toNat + 1 from by omega, own_nan, own_gk] at hz
              replace hz : (if 48 ≤ b2.toInt ∧ b2.toInt ≤ 57 then own_nan (own_gt aN [dot, b0, b1, b2, b3, b4, b5, b6, b7, b8, b9, b10]) (to.toInt - (aN + 4)).toNat (aN + 3 + 1) ((1000000 : Int32) / 10) (wt3 + (b2 - 48) * 1000000) else wt3) = got := hz
              rw [if_neg (by omega)] at hz
              exact KJ (T_33, _, (0 : Int32), (wt3 + (0 : Int32))) ⟨X_33, e_33, N_33, Or.inr ⟨rfl, by rw [Int32.add_zero]; exact hz⟩⟩
        · skip
          refine o_iload X_32 K at_410 412 rfl rfl ?_
          refine o_if_eq_t X_32 K at_412 436 (by decide) (by decide) (by decide) ?_
          refine o_iconst X_32 K (0 : Int32) at_436 437 rfl rfl ?_
          refine o_istore X_32 K at_437 439 rfl #[.val (.int p0), .val (.int p1), .val (.long p2), .second, .val (.long p3), .second, .val (.int fr), .val (.int to), .val (.int dot), .val (.int b0), .val (.int b1), .val (.int b2), .val (.int b3), .val (.int b4), .val (.int b5), .val (.int b6), .val (.int b7), .val (.int b8), .val (.int b9), .val (.int b10), .val (.ref ar), .val (.int at_), .val (.int got), .val (.int wt3), .val (.int (0 : Int32))] rfl rfl ?_
          refine o_iload X_32 K at_439 441 rfl rfl ?_
          refine o_iload X_32 K at_441 443 rfl rfl ?_
          refine o_if_eq_t X_32 K at_443 457 (by decide) (by decide) (by decide) ?_
          refine o_iconst X_32 K (0 : Int32) at_457 458 rfl rfl ?_
          refine o_iadd X_32 K at_458 459 rfl ?_
          refine o_istore X_32 K at_459 461 rfl #[.val (.int p0), .val (.int p1), .val (.long p2), .second, .val (.long p3), .second, .val (.int fr), .val (.int to), .val (.int dot), .val (.int b0), .val (.int b1), .val (.int b2), .val (.int b3), .val (.int b4), .val (.int b5), .val (.int b6), .val (.int b7), .val (.int b8), .val (.int b9), .val (.int b10), .val (.ref ar), .val (.int at_), .val (.int got), .val (.int (wt3 + (0 : Int32))), .val (.int (0 : Int32))] rfl rfl ?_
          exact KJ (T_32, _, (0 : Int32), (wt3 + (0 : Int32))) ⟨X_32, e_32, N_32, Or.inr ⟨rfl, by rw [Int32.add_zero]; exact hg3⟩⟩
      rintro ⟨T_34, locs_34, al4, wt4⟩ ⟨X_34, e_34, N_34, hP4⟩
      dsimp only at X_34 e_34 N_34 hP4
      show OGo p e below s n0 _ _ _ (T_34.setTop (mkF m 461 #[.val (.int p0), .val (.int p1), .val (.long p2), .second, .val (.long p3), .second, .val (.int fr), .val (.int to), .val (.int dot), .val (.int b0), .val (.int b1), .val (.int b2), .val (.int b3), .val (.int b4), .val (.int b5), .val (.int b6), .val (.int b7), .val (.int b8), .val (.int b9), .val (.int b10), .val (.ref ar), .val (.int at_), .val (.int got), .val (.int wt4), .val (.int al4)] []))
      refine o_join (fun (t : State × List Loc × Int32 × Int32) => t.1.setTop (mkF m 512 #[.val (.int p0), .val (.int p1), .val (.long p2), .second, .val (.long p3), .second, .val (.int fr), .val (.int to), .val (.int dot), .val (.int b0), .val (.int b1), .val (.int b2), .val (.int b3), .val (.int b4), .val (.int b5), .val (.int b6), .val (.int b7), .val (.int b8), .val (.int b9), .val (.int b10), .val (.ref ar), .val (.int at_), .val (.int got), .val (.int t.2.2.2), .val (.int t.2.2.1)] [])) (fun t => Stand p l e room_1 s m #[(.int p0), (.int p1), (.long p2), (.long p3)] below meth c t.1 t.2.1 1 34 ∧ t.1.heap = h_27 ∧ Fr n0 t.2.1 ∧ ((t.2.2.1 = 1 ∧ at_.toInt + 5 ≤ to.toInt ∧ own_nan (own_gt aN [dot, b0, b1, b2, b3, b4, b5, b6, b7, b8, b9, b10]) (to.toInt - (aN + 5)).toNat (aN + 5) 10000 t.2.2.2 = got) ∨ (t.2.2.1 = 0 ∧ t.2.2.2 = got))) (fun KJ => ?_) ?_
      · rcases hP4 with ⟨rfl, hg4⟩ | ⟨rfl, hg4⟩
        · skip
          refine o_iload X_34 K at_461 463 rfl rfl ?_
          refine o_if_eq_f X_34 K at_463 466 rfl (by decide) ?_
          refine o_iload X_34 K at_466 468 rfl rfl ?_
          refine o_iconst X_34 K (4 : Int32) at_468 469 rfl rfl ?_
          refine o_iadd X_34 K at_469 470 rfl ?_
          refine o_iload X_34 K at_470 472 rfl rfl ?_
          have ha4 : (at_ + (4 : Int32)).toInt = at_.toInt + 4 := by have q1 := c_iadd at_ 4; have q2 := rng32 (at_ + 4); omega
          refine o_icmp_ge X_34 K at_472 487 (by decide) (by decide) 475 rfl (fun hc472 => ?_) (fun hc472 => ?_)
          · refine o_iconst X_34 K (0 : Int32) at_487 488 rfl rfl ?_
            refine o_istore X_34 K at_488 490 rfl #[.val (.int p0), .val (.int p1), .val (.long p2), .second, .val (.long p3), .second, .val (.int fr), .val (.int to), .val (.int dot), .val (.int b0), .val (.int b1), .val (.int b2), .val (.int b3), .val (.int b4), .val (.int b5), .val (.int b6), .val (.int b7), .val (.int b8), .val (.int b9), .val (.int b10), .val (.ref ar), .val (.int at_), .val (.int got), .val (.int wt4), .val (.int (0 : Int32))] rfl rfl ?_
            refine o_iload X_34 K at_490 492 rfl rfl ?_
            refine o_iload X_34 K at_492 494 rfl rfl ?_
            refine o_if_eq_t X_34 K at_494 508 (by decide) (by decide) (by decide) ?_
            refine o_iconst X_34 K (0 : Int32) at_508 509 rfl rfl ?_
            refine o_iadd X_34 K at_509 510 rfl ?_
            refine o_istore X_34 K at_510 512 rfl #[.val (.int p0), .val (.int p1), .val (.long p2), .second, .val (.long p3), .second, .val (.int fr), .val (.int to), .val (.int dot), .val (.int b0), .val (.int b1), .val (.int b2), .val (.int b3), .val (.int b4), .val (.int b5), .val (.int b6), .val (.int b7), .val (.int b8), .val (.int b9), .val (.int b10), .val (.ref ar), .val (.int at_), .val (.int got), .val (.int (wt4 + (0 : Int32))), .val (.int (0 : Int32))] rfl rfl ?_
            have hz : wt4 = got := by have q := hg4.2; rw [show (to.toInt - (aN + 4)).toNat = 0 from by omega] at q; exact q
            exact KJ (T_34, _, (0 : Int32), (wt4 + (0 : Int32))) ⟨X_34, e_34, N_34, Or.inr ⟨rfl, by rw [Int32.add_zero]; exact hz⟩⟩
          · refine o_iload X_34 K at_475 477 rfl rfl ?_
            refine o_invokestatic X_34 K at_477 480 rfl (w_16 hw) (w_17 hw) (w_2 hw) (w_18 hw) (by decide) [(.int b3)] [] rfl  (c_dig2 l Z a0 hw n0 b3 h_27 Z_27) e_34 rfl (lenOf pd__B_Z rfl) (by decide) 0 (Nat.le_of_eq rfl) (by decide) (by decide) (by decide) N_34 ?_
            rintro _ T_35 h_35 locs_35 X_35 q_35 ⟨rv_35, rfl, hb_35, r_35⟩ N_35
            have e_35 := q_35.trans r_35
            show OGo p e below s n0 _ _ _ (T_35.setTop (mkF m 480 #[.val (.int p0), .val (.int p1), .val (.long p2), .second, .val (.long p3), .second, .val (.int fr), .val (.int to), .val (.int dot), .val (.int b0), .val (.int b1), .val (.int b2), .val (.int b3), .val (.int b4), .val (.int b5), .val (.int b6), .val (.int b7), .val (.int b8), .val (.int b9), .val (.int b10), .val (.ref ar), .val (.int at_), .val (.int got), .val (.int wt4), .val (.int (1 : Int32))] [(.int rv_35)]))
            rcases hb_35 with ⟨rfl, hr_rv_35⟩ | ⟨rfl, hr_rv_35⟩
            · skip
              refine o_if_eq_f X_35 K at_480 483 rfl (by decide) ?_
              refine o_iconst X_35 K (1 : Int32) at_483 484 rfl rfl ?_
              refine o_goto X_35 K at_484 488 (by decide) (by decide) ?_
              refine o_istore X_35 K at_488 490 rfl #[.val (.int p0), .val (.int p1), .val (.long p2), .second, .val (.long p3), .second, .val (.int fr), .val (.int to), .val (.int dot), .val (.int b0), .val (.int b1), .val (.int b2), .val (.int b3), .val (.int b4), .val (.int b5), .val (.int b6), .val (.int b7), .val (.int b8), .val (.int b9), .val (.int b10), .val (.ref ar), .val (.int at_), .val (.int got), .val (.int wt4), .val (.int (1 : Int32))] rfl rfl ?_
              refine o_iload X_35 K at_490 492 rfl rfl ?_
              refine o_iload X_35 K at_492 494 rfl rfl ?_
              refine o_if_eq_f X_35 K at_494 497 rfl (by decide) ?_
              refine o_iload X_35 K at_497 499 rfl rfl ?_
              refine o_bipush X_35 K (48 : Int32) at_499 501 rfl rfl ?_
              refine o_isub X_35 K at_501 502 rfl ?_
              refine o_ldcI X_35 K at_502 504 rfl (w_22 hw) ?_
              refine o_imul X_35 K at_504 505 rfl ?_
              refine o_goto X_35 K at_505 509 (by decide) (by decide) ?_
              refine o_iadd X_35 K at_509 510 rfl ?_
              refine o_istore X_35 K at_510 512 rfl #[.val (.int p0), .val (.int p1), .val (.long p2), .second, .val (.long p3), .second, .val (.int fr), .val (.int to), .val (.int dot), .val (.int b0), .val (.int b1), .val (.int b2), .val (.int b3), .val (.int b4), .val (.int b5), .val (.int b6), .val (.int b7), .val (.int b8), .val (.int b9), .val (.int b10), .val (.ref ar), .val (.int at_), .val (.int got), .val (.int (wt4 + ((b3 - (48 : Int32)) * (100000 : Int32)))), .val (.int (1 : Int32))] rfl rfl ?_
              have hz := hg4.2
              rw [show (to.toInt - (aN + 4)).toNat = (to.toInt - (aN + 5)).toNat + 1 from by omega, own_nan, own_gk] at hz
              replace hz : (if 48 ≤ b3.toInt ∧ b3.toInt ≤ 57 then own_nan (own_gt aN [dot, b0, b1, b2, b3, b4, b5, b6, b7, b8, b9, b10]) (to.toInt - (aN + 5)).toNat (aN + 4 + 1) ((100000 : Int32) / 10) (wt4 + (b3 - 48) * 100000) else wt4) = got := hz
              rw [if_pos (by omega), show ((100000 : Int32) / 10) = 10000 from by decide] at hz
              exact KJ (T_35, _, (1 : Int32), (wt4 + ((b3 - (48 : Int32)) * (100000 : Int32)))) ⟨X_35, e_35, N_35, Or.inl ⟨rfl, by omega, hz⟩⟩
            · skip
              refine o_if_eq_t X_35 K at_480 487 (by decide) (by decide) (by decide) ?_
              refine o_iconst X_35 K (0 : Int32) at_487 488 rfl rfl ?_
              refine o_istore X_35 K at_488 490 rfl #[.val (.int p0), .val (.int p1), .val (.long p2), .second, .val (.long p3), .second, .val (.int fr), .val (.int to), .val (.int dot), .val (.int b0), .val (.int b1), .val (.int b2), .val (.int b3), .val (.int b4), .val (.int b5), .val (.int b6), .val (.int b7), .val (.int b8), .val (.int b9), .val (.int b10), .val (.ref ar), .val (.int at_), .val (.int got), .val (.int wt4), .val (.int (0 : Int32))] rfl rfl ?_
              refine o_iload X_35 K at_490 492 rfl rfl ?_
              refine o_iload X_35 K at_492 494 rfl rfl ?_
              refine o_if_eq_t X_35 K at_494 508 (by decide) (by decide) (by decide) ?_
              refine o_iconst X_35 K (0 : Int32) at_508 509 rfl rfl ?_
              refine o_iadd X_35 K at_509 510 rfl ?_
              refine o_istore X_35 K at_510 512 rfl #[.val (.int p0), .val (.int p1), .val (.long p2), .second, .val (.long p3), .second, .val (.int fr), .val (.int to), .val (.int dot), .val (.int b0), .val (.int b1), .val (.int b2), .val (.int b3), .val (.int b4), .val (.int b5), .val (.int b6), .val (.int b7), .val (.int b8), .val (.int b9), .val (.int b10), .val (.ref ar), .val (.int at_), .val (.int got), .val (.int (wt4 + (0 : Int32))), .val (.int (0 : Int32))] rfl rfl ?_
              have hz := hg4.2
              rw [show (to.toInt - (aN + 4)).toNat = (to.toInt - (aN + 5)).toNat + 1 from by omega, own_nan, own_gk] at hz
              replace hz : (if 48 ≤ b3.toInt ∧ b3.toInt ≤ 57 then own_nan (own_gt aN [dot, b0, b1, b2, b3, b4, b5, b6, b7, b8, b9, b10]) (to.toInt - (aN + 5)).toNat (aN + 4 + 1) ((100000 : Int32) / 10) (wt4 + (b3 - 48) * 100000) else wt4) = got := hz
              rw [if_neg (by omega)] at hz
              exact KJ (T_35, _, (0 : Int32), (wt4 + (0 : Int32))) ⟨X_35, e_35, N_35, Or.inr ⟨rfl, by rw [Int32.add_zero]; exact hz⟩⟩
        · skip
          refine o_iload X_34 K at_461 463 rfl rfl ?_
          refine o_if_eq_t X_34 K at_463 487 (by decide) (by decide) (by decide) ?_
          refine o_iconst X_34 K (0 : Int32) at_487 488 rfl rfl ?_
          refine o_istore X_34 K at_488 490 rfl #[.val (.int p0), .val (.int p1), .val (.long p2), .second, .val (.long p3), .second, .val (.int fr), .val (.int to), .val (.int dot), .val (.int b0), .val (.int b1), .val (.int b2), .val (.int b3), .val (.int b4), .val (.int b5), .val (.int b6), .val (.int b7), .val (.int b8), .val (.int b9), .val (.int b10), .val (.ref ar), .val (.int at_), .val (.int got), .val (.int wt4), .val (.int (0 : Int32))] rfl rfl ?_
          refine o_iload X_34 K at_490 492 rfl rfl ?_
          refine o_iload X_34 K at_492 494 rfl rfl ?_
          refine o_if_eq_t X_34 K at_494 508 (by decide) (by decide) (by decide) ?_
          refine o_iconst X_34 K (0 : Int32) at_508 509 rfl rfl ?_
          refine o_iadd X_34 K at_509 510 rfl ?_
          refine o_istore X_34 K at_510 512 rfl #[.val (.int p0), .val (.int p1), .val (.long p2), .second, .val (.long p3), .second, .val (.int fr), .val (.int to), .val (.int dot), .val (.int b0), .val (.int b1), .val (.int b2), .val (.int b3), .val (.int b4), .val (.int b5), .val (.int b6), .val (.int b7), .val (.int b8), .val (.int b9), .val (.int b10), .val (.ref ar), .val (.int at_), .val (.int got), .val (.int (wt4 + (0 : Int32))), .val (.int (0 : Int32))] rfl rfl ?_
          exact KJ (T_34, _, (0 : Int32), (wt4 + (0 : Int32))) ⟨X_34, e_34, N_34, Or.inr ⟨rfl, by rw [Int32.add_zero]; exact hg4⟩⟩
      rintro ⟨T_36, locs_36, al5, wt5⟩ ⟨X_36, e_36, N_36, hP5⟩
      dsimp only at X_36 e_36 N_36 hP5
      show OGo p e below s n0 _ _ _ (T_36.setTop (mkF m 512 #[.val (.int p0), .val (.int p1), .val (.long p2), .second, .val (.long p3), .second, .val (.int fr), .val (.int to), .val (.int dot), .val (.int b0), .val (.int b1), .val (.int b2), .val (.int b3), .val (.int b4), .val (.int b5), .val (.int b6), .val (.int b7), .val (.int b8), .val (.int b9), .val (.int b10), .val (.ref ar), .val (.int at_), .val (.int got), .val (.int wt5), .val (.int al5)] []))
      refine o_join (fun (t : State × List Loc × Int32 × Int32) => t.1.setTop (mkF m 564 #[.val (.int p0), .val (.int p1), .val (.long p2), .second, .val (.long p3), .second, .val (.int fr), .val (.int to), .val (.int dot), .val (.int b0), .val (.int b1), .val (.int b2), .val (.int b3), .val (.int b4), .val (.int b5), .val (.int b6), .val (.int b7), .val (.int b8), .val (.int b9), .val (.int b10), .val (.ref ar), .val (.int at_), .val (.int got), .val (.int t.2.2.2), .val (.int t.2.2.1)] [])) (fun t => Stand p l e room_1 s m #[(.int p0), (.int p1), (.long p2), (.long p3)] below meth c t.1 t.2.1 1 34 ∧ t.1.heap = h_27 ∧ Fr n0 t.2.1 ∧ ((t.2.2.1 = 1 ∧ at_.toInt + 6 ≤ to.toInt ∧ own_nan (own_gt aN [dot, b0, b1, b2, b3, b4, b5, b6, b7, b8, b9, b10]) (to.toInt - (aN + 6)).toNat (aN + 6) 1000 t.2.2.2 = got) ∨ (t.2.2.1 = 0 ∧ t.2.2.2 = got))) (fun KJ => ?_) ?_
      · rcases hP5 with ⟨rfl, hg5⟩ | ⟨rfl, hg5⟩
        · skip
          refine o_iload X_36 K at_512 514 rfl rfl ?_
          refine o_if_eq_f X_36 K at_514 517 rfl (by decide) ?_
          refine o_iload X_36 K at_517 519 rfl rfl ?_
          refine o_iconst X_36 K (5 : Int32) at_519 520 rfl rfl ?_
          refine o_iadd X_36 K at_520 521 rfl ?_
          refine o_iload X_36 K at_521 523 rfl rfl ?_
          have ha5 : (at_ + (5 : Int32)).toInt = at_.toInt + 5 := by have q1 := c_iadd at_ 5; have q2 := rng32 (at_ + 5); omega
          refine o_icmp_ge X_36 K at_523 538 (by decide) (by decide) 526 rfl (fun hc523 => ?_) (fun hc523 => ?_)
          · refine o_iconst X_36 K (0 : Int32) at_538 539 rfl rfl ?_
            refine o_istore X_36 K at_539 541 rfl #[.val (.int p0), .val (.int p1), .val (.long p2), .second, .val (.long p3), .second, .val (.int fr), .val (.int to), .val (.int dot), .val (.int b0), .val (.int b1), .val (.int b2), .val (.int b3), .val (.int b4), .val (.int b5), .val (.int b6), .val (.int b7), .val (.int b8), .val (.int b9), .val (.int b10), .val (.ref ar), .val (.int at_), .val (.int got), .val (.int wt5), .val (.int (0 : Int32))] rfl rfl ?_
            refine o_iload X_36 K at_541 543 rfl rfl ?_
            refine o_iload X_36 K at_543 545 rfl rfl ?_
            refine o_if_eq_t X_36 K at_545 560 (by decide) (by decide) (by decide) ?_
            refine o_iconst X_36 K (0 : Int32) at_560 561 rfl rfl ?_
            refine o_iadd X_36 K at_561 562 rfl ?_
            refine o_istore X_36 K at_562 564 rfl #[.val (.int p0), .val (.int p1), .val (.long p2), .second, .val (.long p3), .second, .val (.int fr), .val (.int to), .val (.int dot), .val (.int b0), .val (.int b1), .val (.int b2), .val (.int b3), .val (.int b4), .val (.int b5), .val (.int b6), .val (.int b7), .val (.int b8), .val (.int b9), .val (.int b10), .val (.ref ar), .val (.int at_), .val (.int got), .val (.int (wt5 + (0 : Int32))), .val (.int (0 : Int32))] rfl rfl ?_
            have hz : wt5 = got := by have q := hg5.2; rw [show (to.toInt - (aN + 5)).toNat = 0 from by omega] at q; exact q
            exact KJ (T_36, _, (0 : Int32), (wt5 + (0 : Int32))) ⟨X_36, e_36, N_36, Or.inr ⟨rfl, by rw [Int32.add_zero]; exact hz⟩⟩
          · refine o_iload X_36 K at_526 528 rfl rfl ?_
            refine o_invokestatic X_36 K at_528 531 rfl (w_16 hw) (w_17 hw) (w_2 hw) (w_18 hw) (by decide) [(.int b4)] [] rfl  (c_dig2 l Z a0 hw n0 b4 h_27 Z_27) e_36 rfl (lenOf pd__B_Z rfl) (by decide) 0 (Nat.le_of_eq rfl) (by decide) (by decide) (by decide) N_36 ?_
            rintro _ T_37 h_37 locs_37 X_37 q_37 ⟨rv_37, rfl, hb_37, r_37⟩ N_37
            have e_37 := q_37.trans r_37
            show OGo p e below s n0 _ _ _ (T_37.setTop (mkF m 531 #[.val (.int p0), .val (.int p1), .val (.long p2), .second, .val (.long p3), .second, .val (.int fr), .val (.int to), .val (.int dot), .val (.int b0), .val (.int b1), .val (.int b2), .val (.int b3), .val (.int b4), .val (.int b5), .val (.int b6), .val (.int b7), .val (.int b8), .val (.int b9), .val (.int b10), .val (.ref ar), .val (.int at_), .val (.int got), .val (.int wt5), .val (.int (1 : Int32))] [(.int rv_37)]))
            rcases hb_37 with ⟨rfl, hr_rv_37⟩ | ⟨rfl, hr_rv_37⟩
            · skip
              refine o_if_eq_f X_37 K at_531 534 rfl (by decide) ?_
              refine o_iconst X_37 K (1 : Int32) at_534 535 rfl rfl ?_
              refine o_goto X_37 K at_535 539 (by decide) (by decide) ?_
              refine o_istore X_37 K at_539 541 rfl #[.val (.int p0), .val (.int p1), .val (.long p2), .second, .val (.long p3), .second, .val (.int fr), .val (.int to), .val (.int dot), .val (.int b0), .val (.int b1), .val (.int b2), .val (.int b3), .val (.int b4), .val (.int b5), .val (.int b6), .val (.int b7), .val (.int b8), .val (.int b9), .val (.int b10), .val (.ref ar), .val (.int at_), .val (.int got), .val (.int wt5), .val (.int (1 : Int32))] rfl rfl ?_
              refine o_iload X_37 K at_541 543 rfl rfl ?_
              refine o_iload X_37 K at_543 545 rfl rfl ?_
              refine o_if_eq_f X_37 K at_545 548 rfl (by decide) ?_
              refine o_iload X_37 K at_548 550 rfl rfl ?_
              refine o_bipush X_37 K (48 : Int32) at_550 552 rfl rfl ?_
              refine o_isub X_37 K at_552 553 rfl ?_
              refine o_sipush X_37 K (10000 : Int32) at_553 556 rfl rfl ?_
              refine o_imul X_37 K at_556 557 rfl ?_
              refine o_goto X_37 K at_557 561 (by decide) (by decide) ?_
              refine o_iadd X_37 K at_561 562 rfl ?_
              refine o_istore X_37 K at_562 564 rfl #[.val (.int p0), .val (.int p1), .val (.long p2), .second, .val (.long p3), .second, .val (.int fr), .val (.int to), .val (.int dot), .val (.int b0), .val (.int b1), .val (.int b2), .val (.int b3), .val (.int b4), .val (.int b5), .val (.int b6), .val (.int b7), .val (.int b8), .val (.int b9), .val (.int b10), .val (.ref ar), .val (.int at_), .val (.int got), .val (.int (wt5 + ((b4 - (48 : Int32)) * (10000 : Int32)))), .val (.int (1 : Int32))] rfl rfl ?_
              have hz := hg5.2
              rw [show (to.toInt - (aN + 5)).toNat = (to.toInt - (aN + 6)).toNat + 1 from by omega, own_nan, own_gk] at hz
              replace hz : (if 48 ≤ b4.toInt ∧ b4.toInt ≤ 57 then own_nan (own_gt aN [dot, b0, b1, b2, b3, b4, b5, b6, b7, b8, b9, b10]) (to.toInt - (aN + 6)).toNat (aN + 5 + 1) ((10000 : Int32) / 10) (wt5 + (b4 - 48) * 10000) else wt5) = got := hz
              rw [if_pos (by omega), show ((10000 : Int32) / 10) = 1000 from by decide] at hz
              exact KJ (T_37, _, (1 : Int32), (wt5 + ((b4 - (48 : Int32)) * (10000 : Int32)))) ⟨X_37, e_37, N_37, Or.inl ⟨rfl, by omega, hz⟩⟩
            · skip
              refine o_if_eq_t X_37 K at_531 538 (by decide) (by decide) (by decide) ?_
              refine o_iconst X_37 K (0 : Int32) at_538 539 rfl rfl ?_
              refine o_istore X_37 K at_539 541 rfl #[.val (.int p0), .val (.int p1), .val (.long p2), .second, .val (.long p3), .second, .val (.int fr), .val (.int to), .val (.int dot), .val (.int b0), .val (.int b1), .val (.int b2), .val (.int b3), .val (.int b4), .val (.int b5), .val (.int b6), .val (.int b7), .val (.int b8), .val (.int b9), .val (.int b10), .val (.ref ar), .val (.int at_), .val (.int got), .val (.int wt5), .val (.int (0 : Int32))] rfl rfl ?_
              refine o_iload X_37 K at_541 543 rfl rfl ?_
              refine o_iload X_37 K at_543 545 rfl rfl ?_
              refine o_if_eq_t X_37 K at_545 560 (by decide) (by decide) (by decide) ?_
              refine o_iconst X_37 K (0 : Int32) at_560 561 rfl rfl ?_
              refine o_iadd X_37 K at_561 562 rfl ?_
              refine o_istore X_37 K at_562 564 rfl #[.val (.int p0), .val (.int p1), .val (.long p2), .second, .val (.long p3), .second, .val (.int fr), .val (.int to), .val (.int dot), .val (.int b0), .val (.int b1), .val (.int b2), .val (.int b3), .val (.int b4), .val (.int b5), .val (.int b6), .val (.int b7), .val (.int b8), .val (.int b9), .val (.int b10), .val (.ref ar), .val (.int at_), .val (.int got), .val (.int (wt5 + (0 : Int32))), .val (.int (0 : Int32))] rfl rfl ?_
              have hz := hg5.2
              rw [show (to.toInt - (aN + 5)).toNat = (to.toInt - (aN + 6)).toNat + 1 from by omega, own_nan, own_gk] at hz
              replace hz : (if 48 ≤ b4.toInt ∧ b4.toInt ≤ 57 then own_nan (own_gt aN [dot, b0, b1, b2, b3, b4, b5, b6, b7, b8, b9, b10]) (to.toInt - (aN + 6)).toNat (aN + 5 + 1) ((10000 : Int32) / 10) (wt5 + (b4 - 48) * 10000) else wt5) = got := hz
              rw [if_neg (by omega)] at hz
              exact KJ (T_37, _, (0 : Int32), (wt5 + (0 : Int32))) ⟨X_37, e_37, N_37, Or.inr ⟨rfl, by rw [Int32.add_zero]; exact hz⟩⟩
        · skip
          refine o_iload X_36 K at_512 514 rfl rfl ?_
          refine o_if_eq_t X_36 K at_514 538 (by decide) (by decide) (by decide) ?_
          refine o_iconst X_36 K (0 : Int32) at_538 539 rfl rfl ?_
          refine o_istore X_36 K at_539 541 rfl #[.val (.int p0), .val (.int p1), .val (.long p2), .second, .val (.long p3), .second, .val (.int fr), .val (.int to), .val (.int dot), .val (.int b0), .val (.int b1), .val (.int b2), .val (.int b3), .val (.int b4), .val (.int b5), .val (.int b6), .val (.int b7), .val (.int b8), .val (.int b9), .val (.int b10), .val (.ref ar), .val (.int at_), .val (.int got), .val (.int wt5), .val (.int (0 : Int32))] rfl rfl ?_
          refine o_iload X_36 K at_541 543 rfl rfl ?_
          refine o_iload X_36 K at_543 545 rfl rfl ?_
          refine o_if_eq_t X_36 K at_545 560 (by decide) (by decide) (by decide) ?_
          refine o_iconst X_36 K (0 : Int32) at_560 561 rfl rfl ?_
          refine o_iadd X_36 K at_561 562 rfl ?_
          refine o_istore X_36 K at_562 564 rfl #[.val (.int p0), .val (.int p1), .val (.long p2), .second, .val (.long p3), .second, .val (.int fr), .val (.int to), .val (.int dot), .val (.int b0), .val (.int b1), .val (.int b2), .val (.int b3), .val (.int b4), .val (.int b5), .val (.int b6), .val (.int b7), .val (.int b8), .val (.int b9), .val (.int b10), .val (.ref ar), .val (.int at_), .val (.int got), .val (.int (wt5 + (0 : Int32))), .val (.int (0 : Int32))] rfl rfl ?_
          exact KJ (T_36, _, (0 : Int32), (wt5 + (0 : Int32))) ⟨X_36, e_36, N_36, Or.inr ⟨rfl, by rw [Int32.add_zero]; exact hg5⟩⟩
      rintro ⟨T_38, locs_38, al6, wt6⟩ ⟨X_38, e_38, N_38, hP6⟩
      dsimp only at X_38 e_38 N_38 hP6
      show OGo p e below s n0 _ _ _ (T_38.setTop (mkF m 564 #[.val (.int p0), .val (.int p1), .val (.long p2), .second, .val (.long p3), .second, .val (.int fr), .val (.int to), .val (.int dot), .val (.int b0), .val (.int b1), .val (.int b2), .val (.int b3), .val (.int b4), .val (.int b5), .val (.int b6), .val (.int b7), .val (.int b8), .val (.int b9), .val (.int b10), .val (.ref ar), .val (.int at_), .val (.int got), .val (.int wt6), .val (.int al6)] []))
      refine o_join (fun (t : State × List Loc × Int32 × Int32) => t.1.setTop (mkF m 617 #[.val (.int p0), .val (.int p1), .val (.long p2), .second, .val (.long p3), .second, .val (.int fr), .val (.int to), .val (.int dot), .val (.int b0), .val (.int b1), .val (.int b2), .val (.int b3), .val (.int b4), .val (.int b5), .val (.int b6), .val (.int b7), .val (.int b8), .val (.int b9), .val (.int b10), .val (.ref ar), .val (.int at_), .val (.int got), .val (.int t.2.2.2), .val (.int t.2.2.1)] [])) (fun t => Stand p l e room_1 s m #[(.int p0), (.int p1), (.long p2), (.long p3)] below meth c t.1 t.2.1 1 34 ∧ t.1.heap = h_27 ∧ Fr n0 t.2.1 ∧ ((t.2.2.1 = 1 ∧ at_.toInt + 7 ≤ to.toInt ∧ own_nan (own_gt aN [dot, b0, b1, b2, b3, b4, b5, b6, b7, b8, b9, b10]) (to.toInt - (aN + 7)).toNat (aN + 7) 100 t.2.2.2 = got) ∨ (t.2.2.1 = 0 ∧ t.2.2.2 = got))) (fun KJ => ?_) ?_
      · rcases hP6 with ⟨rfl, hg6⟩ | ⟨rfl, hg6⟩
        · skip
          refine o_iload X_38 K at_564 566 rfl rfl ?_
          refine o_if_eq_f X_38 K at_566 569 rfl (by decide) ?_
          refine o_iload X_38 K at_569 571 rfl rfl ?_
          refine o_bipush X_38 K (6 : Int32) at_571 573 rfl rfl ?_
          refine o_iadd X_38 K at_573 574 rfl ?_
          refine o_iload X_38 K at_574 576 rfl rfl ?_
          have ha6 : (at_ + (6 : Int32)).toInt = at_.toInt + 6 := by have q1 := c_iadd at_ 6; have q2 := rng32 (at_ + 6); omega
          refine o_icmp_ge X_38 K at_576 591 (by decide) (by decide) 579 rfl (fun hc576 => ?_) (fun hc576 => ?_)
          · refine o_iconst X_38 K (0 : Int32) at_591 592 rfl rfl ?_
            refine o_istore X_38 K at_592 594 rfl #[.val (.int p0), .val (.int p1), .val (.long p2), .second, .val (.long p3), .second, .val (.int fr), .val (.int to), .val (.int dot), .val (.int b0), .val (.int b1), .val (.int b2), .val (.int b3), .val (.int b4), .val (.int b5), .val (.int b6), .val (.int b7), .val (.int b8), .val (.int b9), .val (.int b10), .val (.ref ar), .val (.int at_), .val (.int got), .val (.int wt6), .val (.int (0 : Int32))] rfl rfl ?_
            refine o_iload X_38 K at_594 596 rfl rfl ?_
            refine o_iload X_38 K at_596 598 rfl rfl ?_
            refine o_if_eq_t X_38 K at_598 613 (by decide) (by decide) (by decide) ?_
            refine o_iconst X_38 K (0 : Int32) at_613 614 rfl rfl ?_
            refine o_iadd X_38 K at_614 615 rfl ?_
            refine o_istore X_38 K at_615 617 rfl #[.val (.int p0), .val (.int p1), .val (.long p2), .second, .val (.long p3), .second, .val (.int fr), .val (.int to), .val (.int dot), .val (.int b0), .val (.int b1), .val (.int b2), .val (.int b3), .val (.int b4), .val (.int b5), .val (.int b6), .val (.int b7), .val (.int b8), .val (.int b9), .val (.int b10), .val (.ref ar), .val (.int at_), .val (.int got), .val (.int (wt6 + (0 : Int32))), .val (.int (0 : Int32))] rfl rfl ?_
            have hz : wt6 = got := by have q := hg6.2; rw [show (to.toInt - (aN + 6)).toNat = 0 from by omega] at q; exact q
            exact KJ (T_38, _, (0 : Int32), (wt6 + (0 : Int32))) ⟨X_38, e_38, N_38, Or.inr ⟨rfl, by rw [Int32.add_zero]; exact hz⟩⟩
          · refine o_iload X_38 K at_579 581 rfl rfl ?_
            refine o_invokestatic X_38 K at_581 584 rfl (w_16 hw) (w_17 hw) (w_2 hw) (w_18 hw) (by decide) [(.int b5)] [] rfl  (c_dig2 l Z a0 hw n0 b5 h_27 Z_27) e_38 rfl (lenOf pd__B_Z rfl) (by decide) 0 (Nat.le_of_eq rfl) (by decide) (by decide) (by decide) N_38 ?_
            rintro _ T_39 h_39 locs_39 X_39 q_39 ⟨rv_39, rfl, hb_39, r_39⟩ N_39
            have e_39 := q_39.trans r_39
            show OGo p e below s n0 _ _ _ (T_39.setTop (mkF m 584 #[.val (.int p0), .val (.int p1), .val (.long p2), .second, .val (.long p3), .second, .val (.int fr), .val (.int to), .val (.int dot), .val (.int b0), .val (.int b1), .val (.int b2), .val (.int b3), .val (.int b4), .val (.int b5), .val (.int b6), .val (.int b7), .val (.int b8), .val (.int b9), .val (.int b10), .val (.ref ar), .val (.int at_), .val (.int got), .val (.int wt6), .val (.int (1 : Int32))] [(.int rv_39)]))
            rcases hb_39 with ⟨rfl, hr_rv_39⟩ | ⟨rfl, hr_rv_39⟩
            · skip
              refine o_if_eq_f X_39 K at_584 587 rfl (by decide) ?_
              refine o_iconst X_39 K (1 : Int32) at_587 588 rfl rfl ?_
              refine o_goto X_39 K at_588 592 (by decide) (by decide) ?_
              refine o_istore X_39 K at_592 594 rfl #[.val (.int p0), .val (.int p1), .val (.long p2), .second, .val (.long p3), .second, .val (.int fr), .val (.int to), .val (.int dot), .val (.int b0), .val (.int b1), .val (.int b2), .val (.int b3), .val (.int b4), .val (.int b5), .val (.int b6), .val (.int b7), .val (.int b8), .val (.int b9), .val (.int b10), .val (.ref ar), .val (.int at_), .val (.int got), .val (.int wt6), .val (.int (1 : Int32))] rfl rfl ?_
              refine o_iload X_39 K at_594 596 rfl rfl ?_
              refine o_iload X_39 K at_596 598 rfl rfl ?_
              refine o_if_eq_f X_39 K at_598 601 rfl (by decide) ?_
              refine o_iload X_39 K at_601 603 rfl rfl ?_
              refine o_bipush X_39 K (48 : Int32) at_603 605 rfl rfl ?_
              refine o_isub X_39 K at_605 606 rfl ?_
              refine o_sipush X_39 K (1000 : Int32) at_606 609 rfl rfl ?_
              refine o_imul X_39 K at_609 610 rfl ?_
              refine o_goto X_39 K at_610 614 (by decide) (by decide) ?_
              refine o_iadd X_39 K at_614 615 rfl ?_
              refine o_istore X_39 K at_615 617 rfl #[.val (.int p0), .val (.int p1), .val (.long p2), .second, .val (.long p3), .second, .val (.int fr), .val (.int to), .val (.int dot), .val (.int b0), .val (.int b1), .val (.int b2), .val (.int b3), .val (.int b4), .val (.int b5), .val (.int b6), .val (.int b7), .val (.int b8), .val (.int b9), .val (.int b10), .val (.ref ar), .val (.int at_), .val (.int got), .val (.int (wt6 + ((b5 - (48 : Int32)) * (1000 : Int32)))), .val (.int (1 : Int32))] rfl rfl ?_
              have hz := hg6.2
              rw [show (to.toInt - (aN + 6)).toNat = (to.toInt - (aN + 7)).toNat + 1 from by omega, own_nan, own_gk] at hz
              replace hz : (if 48 ≤ b5.toInt ∧ b5.toInt ≤ 57 then own_nan (own_gt aN [dot, b0, b1, b2, b3, b4, b5, b6, b7, b8, b9, b10]) (to.toInt - (aN + 7)).toNat (aN + 6 + 1) ((1000 : Int32) / 10) (wt6 + (b5 - 48) * 1000) else wt6) = got := hz
              rw [if_pos (by omega), show ((1000 : Int32) / 10) = 100 from by decide] at hz
              exact KJ (T_39, _, (1 : Int32), (wt6 + ((b5 - (48 : Int32)) * (1000 : Int32)))) ⟨X_39, e_39, N_39, Or.inl ⟨rfl, by omega, hz⟩⟩
            · skip
              refine o_if_eq_t X_39 K at_584 591 (by decide) (by decide) (by decide) ?_
              refine o_iconst X_39 K (0 : Int32) at_591 592 rfl rfl ?_
              refine o_istore X_39 K at_592 594 rfl #[.val (.int p0), .val (.int p1), .val (.long p2), .second, .val (.long p3), .second, .val (.int fr), .val (.int to), .val (.int dot), .val (.int b0), .val (.int b1), .val (.int b2), .val (.int b3), .val (.int b4), .val (.int b5), .val (.int b6), .val (.int b7), .val (.int b8), .val (.int b9), .val (.int b10), .val (.ref ar), .val (.int at_), .val (.int got), .val (.int wt6), .val (.int (0 : Int32))] rfl rfl ?_
              refine o_iload X_39 K at_594 596 rfl rfl ?_
              refine o_iload X_39 K at_596 598 rfl rfl ?_
              refine o_if_eq_t X_39 K at_598 613 (by decide) (by decide) (by decide) ?_
              refine o_iconst X_39 K (0 : Int32) at_613 614 rfl rfl ?_
              refine o_iadd X_39 K at_614 615 rfl ?_
              refine o_istore X_39 K at_615 617 rfl #[.val (.int p0), .val (.int p1), .val (.long p2), .second, .val (.long p3), .second, .val (.int fr), .val (.int to), .val (.int dot), .val (.int b0), .val (.int b1), .val (.int b2), .val (.int b3), .val (.int b4), .val (.int b5), .val (.int b6), .val (.int b7), .val (.int b8), .val (.int b9), .val (.int b10), .val (.ref ar), .val (.int at_), .val (.int got), .val (.int (wt6 + (0 : Int32))), .val (.int (0 : Int32))] rfl rfl ?_
              have hz := hg6.2
              rw [show (to.toInt - (aN + 6)).toNat = (to.toInt - (aN + 7)).toNat + 1 from by omega, own_nan, own_gk] at hz
              replace hz : (if 48 ≤ b5.toInt ∧ b5.toInt ≤ 57 then own_nan (own_gt aN [dot, b0, b1, b2, b3, b4, b5, b6, b7, b8, b9, b10]) (to.toInt - (aN + 7)).toNat (aN + 6 + 1) ((1000 : Int32) / 10) (wt6 + (b5 - 48) * 1000) else wt6) = got := hz
              rw [if_neg (by omega)] at hz
              exact KJ (T_39, _, (0 : Int32), (wt6 + (0 : Int32))) ⟨X_39, e_39, N_39, Or.inr ⟨rfl, by rw [Int32.add_zero]; exact hz⟩⟩
        · skip
          refine o_iload X_38 K at_564 566 rfl rfl ?_
          refine o_if_eq_t X_38 K at_566 591 (by decide) (by decide) (by decide) ?_
          refine o_iconst X_38 K (0 : Int32) at_591 592 rfl rfl ?_
          refine o_istore X_38 K at_592 594 rfl #[.val (.int p0), .val (.int p1), .val (.long p2), .second, .val (.long p3), .second, .val (.int fr), .val (.int to), .val (.int dot), .val (.int b0), .val (.int b1), .val (.int b2), .val (.int b3), .val (.int b4), .val (.int b5), .val (.int b6), .val (.int b7), .val (.int b8), .val (.int b9), .val (.int b10), .val (.ref ar), .val (.int at_), .val (.int got), .val (.int wt6), .val (.int (0 : Int32))] rfl rfl ?_
          refine o_iload X_38 K at_594 596 rfl rfl ?_
          refine o_iload X_38 K at_596 598 rfl rfl ?_
          refine o_if_eq_t X_38 K at_598 613 (by decide) (by decide) (by decide) ?_
          refine o_iconst X_38 K (0 : Int32) at_613 614 rfl rfl ?_
          refine o_iadd X_38 K at_614 615 rfl ?_
          refine o_istore X_38 K at_615 617 rfl #[.val (.int p0), .val (.int p1), .val (.long p2), .second, .val (.long p3), .second, .val (.int fr), .val (.int to), .val (.int dot), .val (.int b0), .val (.int b1), .val (.int b2), .val (.int b3), .val (.int b4), .val (.int b5), .val (.int b6), .val (.int b7), .val (.int b8), .val (.int b9), .val (.int b10), .val (.ref ar), .val (.int at_), .val (.int got), .val (.int (wt6 + (0 : Int32))), .val (.int (0 : Int32))] rfl rfl ?_
          exact KJ (T_38, _, (0 : Int32), (wt6 + (0 : Int32))) ⟨X_38, e_38, N_38, Or.inr ⟨rfl, by rw [Int32.add_zero]; exact hg6⟩⟩
      rintro ⟨T_40, locs_40, al7, wt7⟩ ⟨X_40, e_40, N_40, hP7⟩
      dsimp only at X_40 e_40 N_40 hP7
      show OGo p e below s n0 _ _ _ (T_40.setTop (mkF m 617 #[.val (.int p0), .val (.int p1), .val (.long p2), .second, .val (.long p3), .second, .val (.int fr), .val (.int to), .val (.int dot), .val (.int b0), .val (.int b1), .val (.int b2), .val (.int b3), .val (.int b4), .val (.int b5), .val (.int b6), .val (.int b7), .val (.int b8), .val (.int b9), .val (.int b10), .val (.ref ar), .val (.int at_), .val (.int got), .val (.int wt7), .val (.int al7)] []))
      refine o_join (fun (t : State × List Loc × Int32 × Int32) => t.1.setTop (mkF m 669 #[.val (.int p0), .val (.int p1), .val (.long p2), .second, .val (.long p3), .second, .val (.int fr), .val (.int to), .val (.int dot), .val (.int b0), .val (.int b1), .val (.int b2), .val (.int b3), .val (.int b4), .val (.int b5), .val (.int b6), .val (.int b7), .val (.int b8), .val (.int b9), .val (.int b10), .val (.ref ar), .val (.int at_), .val (.int got), .val (.int t.2.2.2), .val (.int t.2.2.1)] [])) (fun t => Stand p l e room_1 s m #[(.int p0), (.int p1), (.long p2), (.long p3)] below meth c t.1 t.2.1 1 34 ∧ t.1.heap = h_27 ∧ Fr n0 t.2.1 ∧ ((t.2.2.1 = 1 ∧ at_.toInt + 8 ≤ to.toInt ∧ own_nan (own_gt aN [dot, b0, b1, b2, b3, b4, b5, b6, b7, b8, b9, b10]) (to.toInt - (aN + 8)).toNat (aN + 8) 10 t.2.2.2 = got) ∨ (t.2.2.1 = 0 ∧ t.2.2.2 = got))) (fun KJ => ?_) ?_
      · rcases hP7 with ⟨rfl, hg7⟩ | ⟨rfl, hg7⟩
        · skip
          refine o_iload X_40 K at_617 619 rfl rfl ?_
          refine o_if_eq_f X_40 K at_619 622 rfl (by decide) ?_
          refine o_iload X_40 K at_622 624 rfl rfl ?_
          refine o_bipush X_40 K (7 : Int32) at_624 626 rfl rfl ?_
          refine o_iadd X_40 K at_626 627 rfl ?_
          refine o_iload X_40 K at_627 629 rfl rfl ?_
          have ha7 : (at_ + (7 : Int32)).toInt = at_.toInt + 7 := by have q1 := c_iadd at_ 7; have q2 := rng32 (at_ + 7); omega
          refine o_icmp_ge X_40 K at_629 644 (by decide) (by decide) 632 rfl (fun hc629 => ?_) (fun hc629 => ?_)
          · refine o_iconst X_40 K (0 : Int32) at_644 645 rfl rfl ?_
            refine o_istore X_40 K at_645 647 rfl #[.val (.int p0), .val (.int p1), .val (.long p2), .second, .val (.long p3), .second, .val (.int fr), .val (.int to), .val (.int dot), .val (.int b0), .val (.int b1), .val (.int b2), .val (.int b3), .val (.int b4), .val (.int b5), .val (.int b6), .val (.int b7), .val (.int b8), .val (.int b9), .val (.int b10), .val (.ref ar), .val (.int at_), .val (.int got), .val (.int wt7), .val (.int (0 : Int32))] rfl rfl ?_
            refine o_iload X_40 K at_647 649 rfl rfl ?_
            refine o_iload X_40 K at_649 651 rfl rfl ?_
            refine o_if_eq_t X_40 K at_651 665 (by decide) (by decide) (by decide) ?_
            refine o_iconst X_40 K (0 : Int32) at_665 666 rfl rfl ?_
            refine o_iadd X_40 K at_666 667 rfl ?_
            refine o_istore X_40 K at_667 669 rfl #[.val (.int p0), .val (.int p1), .val (.long p2), .second, .val (.long p3), .second, .val (.int fr), .val (.int to), .val (.int dot), .val (.int b0), .val (.int b1), .val (.int b2), .val (.int b3), .val (.int b4), .val (.int b5), .val (.int b6), .val (.int b7), .val (.int b8), .val (.int b9), .val (.int b10), .val (.ref ar), .val (.int at_), .val (.int got), .val (.int (wt7 + (0 : Int32))), .val (.int (0 : Int32))] rfl rfl ?_
            have hz : wt7 = got := by have q := hg7.2; rw [show (to.toInt - (aN + 7)).toNat = 0 from by omega] at q; exact q
            exact KJ (T_40, _, (0 : Int32), (wt7 + (0 : Int32))) ⟨X_40, e_40, N_40, Or.inr ⟨rfl, by rw [Int32.add_zero]; exact hz⟩⟩
          · refine o_iload X_40 K at_632 634 rfl rfl ?_
            refine o_invokestatic X_40 K at_634 637 rfl (w_16 hw) (w_17 hw) (w_2 hw) (w_18 hw) (by decide) [(.int b6)] [] rfl  (c_dig2 l Z a0 hw n0 b6 h_27 Z_27) e_40 rfl (lenOf pd__B_Z rfl) (by decide) 0 (Nat.le_of_eq rfl) (by decide) (by decide) (by decide) N_40 ?_
            rintro _ T_41 h_41 locs_41 X_41 q_41 ⟨rv_41, rfl, hb_41, r_41⟩ N_41
            have e_41 := q_41.trans r_41
            show OGo p e below s n0 _ _ _ (T_41.setTop (mkF m 637 #[.val (.int p0), .val (.int p1), .val (.long p2), .second, .val (.long p3), .second, .val (.int fr), .val (.int to), .val (.int dot), .val (.int b0), .val (.int b1), .val (.int b2), .val (.int b3), .val (.int b4), .val (.int b5), .val (.int b6), .val (.int b7), .val (.int b8), .val (.int b9), .val (.int b10), .val (.ref ar), .val (.int at_), .val (.int got), .val (.int wt7), .val (.int (1 : Int32))] [(.int rv_41)]))
            rcases hb_41 with ⟨rfl, hr_rv_41⟩ | ⟨rfl, hr_rv_41⟩
            · skip
              refine o_if_eq_f X_41 K at_637 640 rfl (by decide) ?_
              refine o_iconst X_41 K (1 : Int32) at_640 641 rfl rfl ?_
              refine o_goto X_41 K at_641 645 (by decide) (by decide) ?_
              refine o_istore X_41 K at_645 647 rfl #[.val (.int p0), .val (.int p1), .val (.long p2), .second, .val (.long p3), .second, .val (.int fr), .val (.int to), .val (.int dot), .val (.int b0), .val (.int b1), .val (.int b2), .val (.int b3), .val (.int b4), .val (.int b5), .val (.int b6), .val (.int b7), .val (.int b8), .val (.int b9), .val (.int b10), .val (.ref ar), .val (.int at_), .val (.int got), .val (.int wt7), .val (.int (1 : Int32))] rfl rfl ?_
              refine o_iload X_41 K at_647 649 rfl rfl ?_
              refine o_iload X_41 K at_649 651 rfl rfl ?_
              refine o_if_eq_f X_41 K at_651 654 rfl (by decide) ?_
              refine o_iload X_41 K at_654 656 rfl rfl ?_
              refine o_bipush X_41 K (48 : Int32) at_656 658 rfl rfl ?_
              refine o_isub X_41 K at_658 659 rfl ?_
              refine o_bipush X_41 K (100 : Int32) at_659 661 rfl rfl ?_
              refine o_imul X_41 K at_661 662 rfl ?_
              refine o_goto X_41 K at_662 666 (by decide) (by decide) ?_
              refine o_iadd X_41 K at_666 667 rfl ?_
              refine o_istore X_41 K at_667 669 rfl #[.val (.int p0), .val (.int p1), .val (.long p2), .second, .val (.long p3), .second, .val (.int fr), .val (.int to), .val (.int dot), .val (.int b0), .val (.int b1), .val (.int b2), .val (.int b3), .val (.int b4), .val (.int b5), .val (.int b6), .val (.int b7), .val (.int b8), .val (.int b9), .val (.int b10), .val (.ref ar), .val (.int at_), .val (.int got), .val (.int (wt7 + ((b6 - (48 : Int32)) * (100 : Int32)))), .val (.int (1 : Int32))] rfl rfl ?_
              have hz := hg7.2
              rw [show (to.toInt - (aN + 7)).toNat = (to.toInt - (aN + 8)).toNat + 1 from by omega, own_nan, own_gk] at hz
              replace hz : (if 48 ≤ b6.toInt ∧ b6.toInt ≤ 57 then own_nan (own_gt aN [dot, b0, b1, b2, b3, b4, b5, b6, b7, b8, b9, b10]) (to.toInt - (aN + 8)).toNat (aN + 7 + 1) ((100 : Int32) / 10) (wt7 + (b6 - 48) * 100) else wt7) = got := hz
              rw [if_pos (by omega), show ((100 : Int32) / 10) = 10 from by decide] at hz
              exact KJ (T_41, _, (1 : Int32), (wt7 + ((b6 - (48 : Int32)) * (100 : Int32)))) ⟨X_41, e_41, N_41, Or.inl ⟨rfl, by omega, hz⟩⟩
            · skip
              refine o_if_eq_t X_41 K at_637 644 (by decide) (by decide) (by decide) ?_
              refine o_iconst X_41 K (0 : Int32) at_644 645 rfl rfl ?_
              refine o_istore X_41 K at_645 647 rfl #[.val (.int p0), .val (.int p1), .val (.long p2), .second, .val (.long p3), .second, .val (.int fr), .val (.int to), .val (.int dot), .val (.int b0), .val (.int b1), .val (.int b2), .val (.int b3), .val (.int b4), .val (.int b5), .val (.int b6), .val (.int b7), .val (.int b8), .val (.int b9), .val (.int b10), .val (.ref ar), .val (.int at_), .val (.int got), .val (.int wt7), .val (.int (0 : Int32))] rfl rfl ?_
              refine o_iload X_41 K at_647 649 rfl rfl ?_
              refine o_iload X_41 K at_649 651 rfl rfl ?_
              refine o_if_eq_t X_41 K at_651 665 (by decide) (by decide) (by decide) ?_
              refine o_iconst X_41 K (0 : Int32) at_665 666 rfl rfl ?_
              refine o_iadd X_41 K at_666 667 rfl ?_
              refine o_istore X_41 K at_667 669 rfl #[.val (.int p0), .val (.int p1), .val (.long p2), .second, .val (.long p3), .second, .val (.int fr), .val (.int to), .val (.int dot), .val (.int b0), .val (.int b1), .val (.int b2), .val (.int b3), .val (.int b4), .val (.int b5), .val (.int b6), .val (.int b7), .val (.int b8), .val (.int b9), .val (.int b10), .val (.ref ar), .val (.int at_), .val (.int got), .val (.int (wt7 + (0 : Int32))), .val (.int (0 : Int32))] rfl rfl ?_
              have hz := hg7.2
              rw [show (to.toInt - (aN + 7)).toNat = (to.toInt - (aN + 8)).toNat + 1 from by omega, own_nan, own_gk] at hz
              replace hz : (if 48 ≤ b6.toInt ∧ b6.toInt ≤ 57 then own_nan (own_gt aN [dot, b0, b1, b2, b3, b4, b5, b6, b7, b8, b9, b10]) (to.toInt - (aN + 8)).toNat (aN + 7 + 1) ((100 : Int32) / 10) (wt7 + (b6 - 48) * 100) else wt7) = got := hz
              rw [if_neg (by omega)] at hz
              exact KJ (T_41, _, (0 : Int32), (wt7 + (0 : Int32))) ⟨X_41, e_41, N_41, Or.inr ⟨rfl, by rw [Int32.add_zero]; exact hz⟩⟩
        · skip
          refine o_iload X_40 K at_617 619 rfl rfl ?_
          refine o_if_eq_t X_40 K at_619 644 (by decide) (by decide) (by decide) ?_
          refine o_iconst X_40 K (0 : Int32) at_644 645 rfl rfl ?_
          refine o_istore X_40 K at_645 647 rfl #[.val (.int p0), .val (.int p1), .val (.long p2), .second, .val (.long p3), .second, .val (.int fr), .val (.int to), .val (.int dot), .val (.int b0), .val (.int b1), .val (.int b2), .val (.int b3), .val (.int b4), .val (.int b5), .val (.int b6), .val (.int b7), .val (.int b8), .val (.int b9), .val (.int b10), .val (.ref ar), .val (.int at_), .val (.int got), .val (.int wt7), .val (.int (0 : Int32))] rfl rfl ?_
          refine o_iload X_40 K at_647 649 rfl rfl ?_
          refine o_iload X_40 K at_649 651 rfl rfl ?_
          refine o_if_eq_t X_40 K at_651 665 (by decide) (by decide) (by decide) ?_
          refine o_iconst X_40 K (0 : Int32) at_665 666 rfl rfl ?_
          refine o_iadd X_40 K at_666 667 rfl ?_
          refine o_istore X_40 K at_667 669 rfl #[.val (.int p0), .val (.int p1), .val (.long p2), .second, .val (.long p3), .second, .val (.int fr), .val (.int to), .val (.int dot), .val (.int b0), .val (.int b1), .val (.int b2), .val (.int b3), .val (.int b4), .val (.int b5), .val (.int b6), .val (.int b7), .val (.int b8), .val (.int b9), .val (.int b10), .val (.ref ar), .val (.int at_), .val (.int got), .val (.int (wt7 + (0 : Int32))), .val (.int (0 : Int32))] rfl rfl ?_
          exact KJ (T_40, _, (0 : Int32), (wt7 + (0 : Int32))) ⟨X_40, e_40, N_40, Or.inr ⟨rfl, by rw [Int32.add_zero]; exact hg7⟩⟩
      rintro ⟨T_42, locs_42, al8, wt8⟩ ⟨X_42, e_42, N_42, hP8⟩
      dsimp only at X_42 e_42 N_42 hP8
      show OGo p e below s n0 _ _ _ (T_42.setTop (mkF m 669 #[.val (.int p0), .val (.int p1), .val (.long p2), .second, .val (.long p3), .second, .val (.int fr), .val (.int to), .val (.int dot), .val (.int b0), .val (.int b1), .val (.int b2), .val (.int b3), .val (.int b4), .val (.int b5), .val (.int b6), .val (.int b7), .val (.int b8), .val (.int b9), .val (.int b10), .val (.ref ar), .val (.int at_), .val (.int got), .val (.int wt8), .val (.int al8)] []))
      refine o_join (fun (t : State × List Loc × Int32 × Int32) => t.1.setTop (mkF m 721 #[.val (.int p0), .val (.int p1), .val (.long p2), .second, .val (.long p3), .second, .val (.int fr), .val (.int to), .val (.int dot), .val (.int b0), .val (.int b1), .val (.int b2), .val (.int b3), .val (.int b4), .val (.int b5), .val (.int b6), .val (.int b7), .val (.int b8), .val (.int b9), .val (.int b10), .val (.ref ar), .val (.int at_), .val (.int got), .val (.int t.2.2.2), .val (.int t.2.2.1)] [])) (fun t => Stand p l e room_1 s m #[(.int p0), (.int p1), (.long p2), (.long p3)] below meth c t.1 t.2.1 1 34 ∧ t.1.heap = h_27 ∧ Fr n0 t.2.1 ∧ ((t.2.2.1 = 1 ∧ at_.toInt + 9 ≤ to.toInt ∧ own_nan (own_gt aN [dot, b0, b1, b2, b3, b4, b5, b6, b7, b8, b9, b10]) (to.toInt - (aN + 9)).toNat (aN + 9) 1 t.2.2.2 = got) ∨ (t.2.2.1 = 0 ∧ t.2.2.2 = got))) (fun KJ => ?_) ?_
      · rcases hP8 with ⟨rfl, hg8⟩ | ⟨rfl, hg8⟩
        · skip
          refine o_iload X_42 K at_669 671 rfl rfl ?_
          refine o_if_eq_f X_42 K at_671 674 rfl (by decide) ?_
          refine o_iload X_42 K at_674 676 rfl rfl ?_
          refine o_bipush X_42 K (8 : Int32) at_676 678 rfl rfl ?_
          refine o_iadd X_42 K at_678 679 rfl ?_
          refine o_iload X_42 K at_679 681 rfl rfl ?_
          have ha8 : (at_ + (8 : Int32)).toInt = at_.toInt + 8 := by have q1 := c_iadd at_ 8; have q2 := rng32 (at_ + 8); omega
          refine o_icmp_ge X_42 K at_681 696 (by decide) (by decide) 684 rfl (fun hc681 => ?_) (fun hc681 => ?_)
          · refine o_iconst X_42 K (0 : Int32) at_696 697 rfl rfl ?_
            refine o_istore X_42 K at_697 699 rfl #[.val (.int p0), .val (.int p1), .val (.long p2), .second, .val (.long p3), .second, .val (.int fr), .val (.int to), .val (.int dot), .val (.int b0), .val (.int b1), .val (.int b2), .val (.int b3), .val (.int b4), .val (.int b5), .val (.int b6), .val (.int b7), .val (.int b8), .val (.int b9), .val (.int b10), .val (.ref ar), .val (.int at_), .val (.int got), .val (.int wt8), .val (.int (0 : Int32))] rfl rfl ?_
            refine o_iload X_42 K at_699 701 rfl rfl ?_
            refine o_iload X_42 K at_701 703 rfl rfl ?_
            refine o_if_eq_t X_42 K at_703 717 (by decide) (by decide) (by decide) ?_
            refine o_iconst X_42 K (0 : Int32) at_717 718 rfl rfl ?_
            refine o_iadd X_42 K at_718 719 rfl ?_
            refine o_istore X_42 K at_719 721 rfl #[.val (.int p0), .val (.int p1), .val (.long p2), .second, .val (.long p3), .second, .val (.int fr), .val (.int to), .val (.int dot), .val (.int b0), .val (.int b1), .val (.int b2), .val (.int b3), .val (.int b4), .val (.int b5), .val (.int b6), .val (.int b7), .val (.int b8), .val (.int b9), .val (.int b10), .val (.ref ar), .val (.int at_), .val (.int got), .val (.int (wt8 + (0 : Int32))), .val (.int (0 : Int32))] rfl rfl ?_
            have hz : wt8 = got := by have q := hg8.2; rw [show (to.toInt - (aN + 8)).toNat = 0 from by omega] at q; exact q
            exact KJ (T_42, _, (0 : Int32), (wt8 + (0 : Int32))) ⟨X_42, e_42, N_42, Or.inr ⟨rfl, by rw [Int32.add_zero]; exact hz⟩⟩
          · refine o_iload X_42 K at_684 686 rfl rfl ?_
            refine o_invokestatic X_42 K at_686 689 rfl (w_16 hw) (w_17 hw) (w_2 hw) (w_18 hw) (by decide) [(.int b7)] [] rfl  (c_dig2 l Z a0 hw n0 b7 h_27 Z_27) e_42 rfl (lenOf pd__B_Z rfl) (by decide) 0 (Nat.le_of_eq rfl) (by decide) (by decide) (by decide) N_42 ?_
            rintro _ T_43 h_43 locs_43 X_43 q_43 ⟨rv_43, rfl, hb_43, r_43⟩ N_43
            have e_43 := q_43.trans r_43
            show OGo p e below s n0 _ _ _ (T_43.setTop (mkF m 689 #[.val (.int p0), .val (.int p1), .val (.long p2), .second, .val (.long p3), .second, .val (.int fr), .val (.int to), .val (.int dot), .val (.int b0), .val (.int b1), .val (.int b2), .val (.int b3), .val (.int b4), .val (.int b5), .val (.int b6), .val (.int b7), .val (.int b8), .val (.int b9), .val (.int b10), .val (.ref ar), .val (.int at_), .val (.int got), .val (.int wt8), .val (.int (1 : Int32))] [(.int rv_43)]))
            rcases hb_43 with ⟨rfl, hr_rv_43⟩ | ⟨rfl, hr_rv_43⟩
            · skip
              refine o_if_eq_f X_43 K at_689 692 rfl (by decide) ?_
              refine o_iconst X_43 K (1 : Int32) at_692 693 rfl rfl ?_
              refine o_goto X_43 K at_693 697 (by decide) (by decide) ?_
              refine o_istore X_43 K at_697 699 rfl #[.val (.int p0), .val (.int p1), .val (.long p2), .second, .val (.long p3), .second, .val (.int fr), .val (.int to), .val (.int dot), .val (.int b0), .val (.int b1), .val (.int b2), .val (.int b3), .val (.int b4), .val (.int b5), .val (.int b6), .val (.int b7), .val (.int b8), .val (.int b9), .val (.int b10), .val (.ref ar), .val (.int at_), .val (.int got), .val (.int wt8), .val (.int (1 : Int32))] rfl rfl ?_
              refine o_iload X_43 K at_699 701 rfl rfl ?_
              refine o_iload X_43 K at_701 703 rfl rfl ?_
              refine o_if_eq_f X_43 K at_703 706 rfl (by decide) ?_
              refine o_iload X_43 K at_706 708 rfl rfl ?_
              refine o_bipush X_43 K (48 : Int32) at_708 710 rfl rfl ?_
              refine o_isub X_43 K at_710 711 rfl ?_
              refine o_bipush X_43 K (10 : Int32) at_711 713 rfl rfl ?_
              refine o_imul X_43 K at_713 714 rfl ?_
              refine o_goto X_43 K at_714 718 (by decide) (by decide) ?_
              refine o_iadd X_43 K at_718 719 rfl ?_
              refine o_istore X_43 K at_719 721 rfl #[.val (.int p0), .val (.int p1), .val (.long p2), .second, .val (.long p3), .second, .val (.int fr), .val (.int to), .val (.int dot), .val (.int b0), .val (.int b1), .val (.int b2), .val (.int b3), .val (.int b4), .val (.int b5), .val (.int b6), .val (.int b7), .val (.int b8), .val (.int b9), .val (.int b10), .val (.ref ar), .val (.int at_), .val (.int got), .val (.int (wt8 + ((b7 - (48 : Int32)) * (10 : Int32)))), .val (.int (1 : Int32))] rfl rfl ?_
              have hz := hg8.2
              rw [show (to.toInt - (aN + 8)).toNat = (to.toInt - (aN + 9)).toNat + 1 from by omega, own_nan, own_gk] at hz
              replace hz : (if 48 ≤ b7.toInt ∧ b7.toInt ≤ 57 then own_nan (own_gt aN [dot, b0, b1, b2, b3, b4, b5, b6, b7, b8, b9, b10]) (to.toInt - (aN + 9)).toNat (aN + 8 + 1) ((10 : Int32) / 10) (wt8 + (b7 - 48) * 10) else wt8) = got := hz
              rw [if_pos (by omega), show ((10 : Int32) / 10) = 1 from by decide] at hz
              exact KJ (T_43, _, (1 : Int32), (wt8 + ((b7 - (48 : Int32)) * (10 : Int32)))) ⟨X_43, e_43, N_43, Or.inl ⟨rfl, by omega, hz⟩⟩
            · skip
              refine o_if_eq_t X_43 K at_689 696 (by decide) (by decide) (by decide) ?_
              refine o_iconst X_43 K (0 : Int32) at_696 697 rfl rfl ?_
              refine o_istore X_43 K at_697 699 rfl #[.val (.int p0), .val (.int p1), .val (.long p2), .second, .val (.long p3), .second, .val (.int fr), .val (.int to), .val (.int dot), .val (.int b0), .val (.int b1), .val (.int b2), .val (.int b3), .val (.int b4), .val (.int b5), .val (.int b6), .val (.int b7), .val (.int b8), .val (.int b9), .val (.int b10), .val (.ref ar), .val (.int at_), .val (.int got), .val (.int wt8), .val (.int (0 : Int32))] rfl rfl ?_
              refine o_iload X_43 K at_699 701 rfl rfl ?_
              refine o_iload X_43 K at_701 703 rfl rfl ?_
              refine o_if_eq_t X_43 K at_703 717 (by decide) (by decide) (by decide) ?_
              refine o_iconst X_43 K (0 : Int32) at_717 718 rfl rfl ?_
              refine o_iadd X_43 K at_718 719 rfl ?_
              refine o_istore X_43 K at_719 721 rfl #[.val (.int p0), .val (.int p1), .val (.long p2), .second, .val (.long p3), .second, .val (.int fr), .val (.int to), .val (.int dot), .val (.int b0), .val (.int b1), .val (.int b2), .val (.int b3), .val (.int b4), .val (.int b5), .val (.int b6), .val (.int b7), .val (.int b8), .val (.int b9), .val (.int b10), .val (.ref ar), .val (.int at_), .val (.int got), .val (.int (wt8 + (0 : Int32))), .val (.int (0 : Int32))] rfl rfl ?_
              have hz := hg8.2
              rw [show (to.toInt - (aN + 8)).toNat = (to.toInt - (aN + 9)).toNat + 1 from by omega, own_nan, own_gk] at hz
              replace hz : (if 48 ≤ b7.toInt ∧ b7.toInt ≤ 57 then own_nan (own_gt aN [dot, b0, b1, b2, b3, b4, b5, b6, b7, b8, b9, b10]) (to.toInt - (aN + 9)).toNat (aN + 8 + 1) ((10 : Int32) / 10) (wt8 + (b7 - 48) * 10) else wt8) = got := hz
              rw [if_neg (by omega)] at hz
              exact KJ (T_43, _, (0 : Int32), (wt8 + (0 : Int32))) ⟨X_43, e_43, N_43, Or.inr ⟨rfl, by rw [Int32.add_zero]; exact hz⟩⟩
        · skip
          refine o_iload X_42 K at_669 671 rfl rfl ?_
          refine o_if_eq_t X_42 K at_671 696 (by decide) (by decide) (by decide) ?_
          refine o_iconst X_42 K (0 : Int32) at_696 697 rfl rfl ?_
          refine o_istore X_42 K at_697 699 rfl #[.val (.int p0), .val (.int p1), .val (.long p2), .second, .val (.long p3), .second, .val (.int fr), .val (.int to), .val (.int dot), .val (.int b0), .val (.int b1), .val (.int b2), .val (.int b3), .val (.int b4), .val (.int b5), .val (.int b6), .val (.int b7), .val (.int b8), .val (.int b9), .val (.int b10), .val (.ref ar), .val (.int at_), .val (.int got), .val (.int wt8), .val (.int (0 : Int32))] rfl rfl ?_
          refine o_iload X_42 K at_699 701 rfl rfl ?_
          refine o_iload X_42 K at_701 703 rfl rfl ?_
          refine o_if_eq_t X_42 K at_703 717 (by decide) (by decide) (by decide) ?_
          refine o_iconst X_42 K (0 : Int32) at_717 718 rfl rfl ?_
          refine o_iadd X_42 K at_718 719 rfl ?_
          refine o_istore X_42 K at_719 721 rfl #[.val (.int p0), .val (.int p1), .val (.long p2), .second, .val (.long p3), .second, .val (.int fr), .val (.int to), .val (.int dot), .val (.int b0), .val (.int b1), .val (.int b2), .val (.int b3), .val (.int b4), .val (.int b5), .val (.int b6), .val (.int b7), .val (.int b8), .val (.int b9), .val (.int b10), .val (.ref ar), .val (.int at_), .val (.int got), .val (.int (wt8 + (0 : Int32))), .val (.int (0 : Int32))] rfl rfl ?_
          exact KJ (T_42, _, (0 : Int32), (wt8 + (0 : Int32))) ⟨X_42, e_42, N_42, Or.inr ⟨rfl, by rw [Int32.add_zero]; exact hg8⟩⟩
      rintro ⟨T_44, locs_44, al9, wt9⟩ ⟨X_44, e_44, N_44, hP9⟩
      dsimp only at X_44 e_44 N_44 hP9
      show OGo p e below s n0 _ _ _ (T_44.setTop (mkF m 721 #[.val (.int p0), .val (.int p1), .val (.long p2), .second, .val (.long p3), .second, .val (.int fr), .val (.int to), .val (.int dot), .val (.int b0), .val (.int b1), .val (.int b2), .val (.int b3), .val (.int b4), .val (.int b5), .val (.int b6), .val (.int b7), .val (.int b8), .val (.int b9), .val (.int b10), .val (.ref ar), .val (.int at_), .val (.int got), .val (.int wt9), .val (.int al9)] []))
      refine o_join (fun (t : State × List Loc × Int32 × Int32) => t.1.setTop (mkF m 770 #[.val (.int p0), .val (.int p1), .val (.long p2), .second, .val (.long p3), .second, .val (.int fr), .val (.int to), .val (.int dot), .val (.int b0), .val (.int b1), .val (.int b2), .val (.int b3), .val (.int b4), .val (.int b5), .val (.int b6), .val (.int b7), .val (.int b8), .val (.int b9), .val (.int b10), .val (.ref ar), .val (.int at_), .val (.int got), .val (.int t.2.2.2), .val (.int t.2.2.1)] [])) (fun t => Stand p l e room_1 s m #[(.int p0), (.int p1), (.long p2), (.long p3)] below meth c t.1 t.2.1 1 34 ∧ t.1.heap = h_27 ∧ Fr n0 t.2.1 ∧ t.2.2.2 = got) (fun KJ => ?_) ?_
      · rcases hP9 with ⟨rfl, hg9⟩ | ⟨rfl, hg9⟩
        · skip
          refine o_iload X_44 K at_721 723 rfl rfl ?_
          refine o_if_eq_f X_44 K at_723 726 rfl (by decide) ?_
          refine o_iload X_44 K at_726 728 rfl rfl ?_
          refine o_bipush X_44 K (9 : Int32) at_728 730 rfl rfl ?_
          refine o_iadd X_44 K at_730 731 rfl ?_
          refine o_iload X_44 K at_731 733 rfl rfl ?_
          have ha9 : (at_ + (9 : Int32)).toInt = at_.toInt + 9 := by have q1 := c_iadd at_ 9; have q2 := rng32 (at_ + 9); omega
          refine o_icmp_ge X_44 K at_733 748 (by decide) (by decide) 736 rfl (fun hc733 => ?_) (fun hc733 => ?_)
          · refine o_iconst X_44 K (0 : Int32) at_748 749 rfl rfl ?_
            refine o_istore X_44 K at_749 751 rfl #[.val (.int p0), .val (.int p1), .val (.long p2), .second, .val (.long p3), .second, .val (.int fr), .val (.int to), .val (.int dot), .val (.int b0), .val (.int b1), .val (.int b2), .val (.int b3), .val (.int b4), .val (.int b5), .val (.int b6), .val (.int b7), .val (.int b8), .val (.int b9), .val (.int b10), .val (.ref ar), .val (.int at_), .val (.int got), .val (.int wt9), .val (.int (0 : Int32))] rfl rfl ?_
            refine o_iload X_44 K at_751 753 rfl rfl ?_
            refine o_iload X_44 K at_753 755 rfl rfl ?_
            refine o_if_eq_t X_44 K at_755 766 (by decide) (by decide) (by decide) ?_
            refine o_iconst X_44 K (0 : Int32) at_766 767 rfl rfl ?_
            refine o_iadd X_44 K at_767 768 rfl ?_
            refine o_istore X_44 K at_768 770 rfl #[.val (.int p0), .val (.int p1), .val (.long p2), .second, .val (.long p3), .second, .val (.int fr), .val (.int to), .val (.int dot), .val (.int b0), .val (.int b1), .val (.int b2), .val (.int b3), .val (.int b4), .val (.int b5), .val (.int b6), .val (.int b7), .val (.int b8), .val (.int b9), .val (.int b10), .val (.ref ar), .val (.int at_), .val (.int got), .val (.int (wt9 + (0 : Int32))), .val (.int (0 : Int32))] rfl rfl ?_
            have hz : wt9 = got := by have q := hg9.2; rw [show (to.toInt - (aN + 9)).toNat = 0 from by omega] at q; exact q
            exact KJ (T_44, _, (0 : Int32), (wt9 + (0 : Int32))) ⟨X_44, e_44, N_44, by rw [Int32.add_zero]; exact hz⟩
          · refine o_iload X_44 K at_736 738 rfl rfl ?_
            refine o_invokestatic X_44 K at_738 741 rfl (w_16 hw) (w_17 hw) (w_2 hw) (w_18 hw) (by decide) [(.int b8)] [] rfl  (c_dig2 l Z a0 hw n0 b8 h_27 Z_27) e_44 rfl (lenOf pd__B_Z rfl) (by decide) 0 (Nat.le_of_eq rfl) (by decide) (by decide) (by decide) N_44 ?_
            rintro _ T_45 h_45 locs_45 X_45 q_45 ⟨rv_45, rfl, hb_45, r_45⟩ N_45
            have e_45 := q_45.trans r_45
            show OGo p e below s n0 _ _ _ (T_45.setTop (mkF m 741 #[.val (.int p0), .val (.int p1), .val (.long p2), .second, .val (.long p3), .second, .val (.int fr), .val (.int to), .val (.int dot), .val (.int b0), .val (.int b1), .val (.int b2), .val (.int b3), .val (.int b4), .val (.int b5), .val (.int b6), .val (.int b7), .val (.int b8), .val (.int b9), .val (.int b10), .val (.ref ar), .val (.int at_), .val (.int got), .val (.int wt9), .val (.int (1 : Int32))] [(.int rv_45)]))
            rcases hb_45 with ⟨rfl, hr_rv_45⟩ | ⟨rfl, hr_rv_45⟩
            · skip
              refine o_if_eq_f X_45 K at_741 744 rfl (by decide) ?_
              refine o_iconst X_45 K (1 : Int32) at_744 745 rfl rfl ?_
              refine o_goto X_45 K at_745 749 (by decide) (by decide) ?_
              refine o_istore X_45 K at_749 751 rfl #[.val (.int p0), .val (.int p1), .val (.long p2), .second, .val (.long p3), .second, .val (.int fr), .val (.int to), .val (.int dot), .val (.int b0), .val (.int b1), .val (.int b2), .val (.int b3), .val (.int b4), .val (.int b5), .val (.int b6), .val (.int b7), .val (.int b8), .val (.int b9), .val (.int b10), .val (.ref ar), .val (.int at_), .val (.int got), .val (.int wt9), .val (.int (1 : Int32))] rfl rfl ?_
              refine o_iload X_45 K at_751 753 rfl rfl ?_
              refine o_iload X_45 K at_753 755 rfl rfl ?_
              refine o_if_eq_f X_45 K at_755 758 rfl (by decide) ?_
              refine o_iload X_45 K at_758 760 rfl rfl ?_
              refine o_bipush X_45 K (48 : Int32) at_760 762 rfl rfl ?_
              refine o_isub X_45 K at_762 763 rfl ?_
              refine o_goto X_45 K at_763 767 (by decide) (by decide) ?_
              refine o_iadd X_45 K at_767 768 rfl ?_
              refine o_istore X_45 K at_768 770 rfl #[.val (.int p0), .val (.int p1), .val (.long p2), .second, .val (.long p3), .second, .val (.int fr), .val (.int to), .val (.int dot), .val (.int b0), .val (.int b1), .val (.int b2), .val (.int b3), .val (.int b4), .val (.int b5), .val (.int b6), .val (.int b7), .val (.int b8), .val (.int b9), .val (.int b10), .val (.ref ar), .val (.int at_), .val (.int got), .val (.int (wt9 + (b8 - (48 : Int32)))), .val (.int (1 : Int32))] rfl rfl ?_
              have hz := hg9.2
              rw [show (to.toInt - (aN + 9)).toNat = (to.toInt - (aN + 10)).toNat + 1 from by omega, own_nan, own_gk] at hz
              replace hz : (if 48 ≤ b8.toInt ∧ b8.toInt ≤ 57 then own_nan (own_gt aN [dot, b0, b1, b2, b3, b4, b5, b6, b7, b8, b9, b10]) (to.toInt - (aN + 10)).toNat (aN + 9 + 1) ((1 : Int32) / 10) (wt9 + (b8 - 48) * 1) else wt9) = got := hz
              rw [if_pos (by omega), show ((1 : Int32) / 10) = 0 from by decide] at hz
              rw [own_nan0, Int32.mul_one] at hz
              exact KJ (T_45, _, (1 : Int32), (wt9 + (b8 - (48 : Int32)))) ⟨X_45, e_45, N_45, hz⟩
            · skip
              refine o_if_eq_t X_45 K at_741 748 (by decide) (by decide) (by decide) ?_
              refine o_iconst X_45 K (0 : Int32) at_748 749 rfl rfl ?_
              refine o_istore X_45 K at_749 751 rfl #[.val (.int p0), .val (.int p1), .val (.long p2), .second, .val (.long p3), .second, .val (.int fr), .val (.int to), .val (.int dot), .val (.int b0), .val (.int b1), .val (.int b2), .val (.int b3), .val (.int b4), .val (.int b5), .val (.int b6), .val (.int b7), .val (.int b8), .val (.int b9), .val (.int b10), .val (.ref ar), .val (.int at_), .val (.int got), .val (.int wt9), .val (.int (0 : Int32))] rfl rfl ?_
              refine o_iload X_45 K at_751 753 rfl rfl ?_
              refine o_iload X_45 K at_753 755 rfl rfl ?_
              refine o_if_eq_t X_45 K at_755 766 (by decide) (by decide) (by decide) ?_
              refine o_iconst X_45 K (0 : Int32) at_766 767 rfl rfl ?_
              refine o_iadd X_45 K at_767 768 rfl ?_
              refine o_istore X_45 K at_768 770 rfl #[.val (.int p0), .val (.int p1), .val (.long p2), .second, .val (.long p3), .second, .val (.int fr), .val (.int to), .val (.int dot), .val (.int b0), .val (.int b1), .val (.int b2), .val (.int b3), .val (.int b4), .val (.int b5), .val (.int b6), .val (.int b7), .val (.int b8), .val (.int b9), .val (.int b10), .val (.ref ar), .val (.int at_), .val (.int got), .val (.int (wt9 + (0 : Int32))), .val (.int (0 : Int32))] rfl rfl ?_
              have hz := hg9.2
              rw [show (to.toInt - (aN + 9)).toNat = (to.toInt - (aN + 10)).toNat + 1 from by omega, own_nan, own_gk] at hz
              replace hz : (if 48 ≤ b8.toInt ∧ b8.toInt ≤ 57 then own_nan (own_gt aN [dot, b0, b1, b2, b3, b4, b5, b6, b7, b8, b9, b10]) (to.toInt - (aN + 10)).toNat (aN + 9 + 1) ((1 : Int32) / 10) (wt9 + (b8 - 48) * 1) else wt9) = got := hz
              rw [if_neg (by omega)] at hz
              exact KJ (T_45, _, (0 : Int32), (wt9 + (0 : Int32))) ⟨X_45, e_45, N_45, by rw [Int32.add_zero]; exact hz⟩
        · skip
          refine o_iload X_44 K at_721 723 rfl rfl ?_
          refine o_if_eq_t X_44 K at_723 748 (by decide) (by decide) (by decide) ?_
          refine o_iconst X_44 K (0 : Int32) at_748 749 rfl rfl ?_
          refine o_istore X_44 K at_749 751 rfl #[.val (.int p0), .val (.int p1), .val (.long p2), .second, .val (.long p3), .second, .val (.int fr), .val (.int to), .val (.int dot), .val (.int b0), .val (.int b1), .val (.int b2), .val (.int b3), .val (.int b4), .val (.int b5), .val (.int b6), .val (.int b7), .val (.int b8), .val (.int b9), .val (.int b10), .val (.ref ar), .val (.int at_), .val (.int got), .val (.int wt9), .val (.int (0 : Int32))] rfl rfl ?_
          refine o_iload X_44 K at_751 753 rfl rfl ?_
          refine o_iload X_44 K at_753 755 rfl rfl ?_
          refine o_if_eq_t X_44 K at_755 766 (by decide) (by decide) (by decide) ?_
          refine o_iconst X_44 K (0 : Int32) at_766 767 rfl rfl ?_
          refine o_iadd X_44 K at_767 768 rfl ?_
          refine o_istore X_44 K at_768 770 rfl #[.val (.int p0), .val (.int p1), .val (.long p2), .second, .val (.long p3), .second, .val (.int fr), .val (.int to), .val (.int dot), .val (.int b0), .val (.int b1), .val (.int b2), .val (.int b3), .val (.int b4), .val (.int b5), .val (.int b6), .val (.int b7), .val (.int b8), .val (.int b9), .val (.int b10), .val (.ref ar), .val (.int at_), .val (.int got), .val (.int (wt9 + (0 : Int32))), .val (.int (0 : Int32))] rfl rfl ?_
          exact KJ (T_44, _, (0 : Int32), (wt9 + (0 : Int32))) ⟨X_44, e_44, N_44, by rw [Int32.add_zero]; exact hg9⟩
      rintro ⟨T_46, locs_46, al10, wt10⟩ ⟨X_46, e_46, N_46, hP10⟩
      dsimp only at X_46 e_46 N_46 hP10
      show OGo p e below s n0 _ _ _ (T_46.setTop (mkF m 770 #[.val (.int p0), .val (.int p1), .val (.long p2), .second, .val (.long p3), .second, .val (.int fr), .val (.int to), .val (.int dot), .val (.int b0), .val (.int b1), .val (.int b2), .val (.int b3), .val (.int b4), .val (.int b5), .val (.int b6), .val (.int b7), .val (.int b8), .val (.int b9), .val (.int b10), .val (.ref ar), .val (.int at_), .val (.int got), .val (.int wt10), .val (.int al10)] []))
      have hF : got = wt10 := hP10.symm
      refine o_iload X_46 K at_770 772 rfl rfl ?_
      refine o_iload X_46 K at_772 774 rfl rfl ?_
      refine o_icmp_ne_f X_46 K at_774 777 rfl (hF) ?_
      refine o_iconst X_46 K (1 : Int32) at_777 778 rfl rfl ?_
      refine o_goto X_46 K at_778 782 (by decide) (by decide) ?_
      refine o_ireturnN X_46 K (by decide) at_782 (by decide) (by decide) N_46 ?_
      exact rfl
set_option maxHeartbeats 4000000 in
theorem comes_1 {Post : Tables → Env → Array Value → State → Outcome → State → Prop} (hpost : ∀ tb e args s v u, (limb_1_1.after args s (.returned v) u = true ∧ limb_1_2.after args s (.returned v) u = true ∧ True) → FrameEnd s (.returned v) u (Jvm.fieldLocs frame_1_writes args s ++ Jvm.arrayLocs frame_1_arrays args s ++ Jvm.staticLocs frame_1_statics s) 16 192 → Post tb e args s (.returned v) u) :
    ArmFor flags0 classFile x code maxLocals ret World_1 tables_1 room_1 Calls_1 rest_1 Pre_1 Post := by
  intro l hfl _ _ p e ha hc hk s m args below hf hA hF happ hP
  obtain ⟨hcalls, hrest, hpre⟩ := hP
  obtain ⟨-, -, -, hnamed, -, -, -, hat⟩ := (Spec.applies_iff hf).mp happ
  obtain ⟨hg, hn⟩ := and_e (Cond.before_iff.mp (show (Jvm.Cond.and given_1 narrow_1).before args s = true from hpre))
  obtain ⟨g1, g2⟩ := and_e hg
  obtain ⟨g3, g4⟩ := and_e g2
  obtain ⟨g5, g6⟩ := and_e g4
  obtain ⟨g7, g8⟩ := and_e g6
  obtain ⟨w0, w1, w2, w3, rfl⟩ : ∃ w0 w1 w2 w3 : Value, args = #[w0, w1, w2, w3] := by
    have hs : args.size = 4 := by simpa [Cond.value, given_1] using g1
    obtain ⟨L⟩ := args
    match L, hs with
    | [w0, w1, w2, w3], _ => exact ⟨w0, w1, w2, w3, rfl⟩
  have hw := fun d (hd : d ∈ tables_1) => atoms_spec (ws := Jvm.Cond.code x code maxLocals ret :: tables_1) hat d (List.mem_cons_of_mem _ hd)
  have hfit : Fit s := fun {y c} hc i hi => by
    obtain ⟨ha, rfl⟩ := Array.getElem?_eq_some_iff.mp hc
    have q := List.all_eq_true.mp ((Array.all_eq_true_iff_forall_mem.mp hF) _ (Array.getElem_mem ha)) i (List.mem_range.mpr hi)
    simpa [Array.getElem?_eq_getElem hi] using q
  obtain ⟨i0, ei0⟩ := is_v g3
  obtain rfl : w0 = (.int i0) := Option.some.inj ei0
  obtain ⟨i1, ei1⟩ := is_v g5
  obtain rfl : w1 = (.int i1) := Option.some.inj ei1
  obtain ⟨i2, ei2⟩ := isL_v g7
  obtain rfl : w2 = (.long i2) := Option.some.inj ei2
  obtain ⟨i3, ei3⟩ := isL_v g8
  obtain rfl : w3 = (.long i3) := Option.some.inj ei3
  obtain ⟨n, o, h1, h2, h3, _, L, rfl, ⟨rfl, N⟩, hq⟩ := rm0 l s _ hw s.heap.size i0 i1 i2 i3 s.heap (Nat.le_refl _)  tables_1 p e ha hc hk s m _ below hf ((Spec.applies_iff_loose hf).mp happ).1 ⟨rfl, State.Warmed39.refl s, rfl⟩ trivial
  refine ⟨n, _, h1, h2, h3, hpost _ _ _ _ _ _ ⟨Cond.after_iff.mpr rfl, Cond.after_iff.mpr (eq_i res_at (Term.int_eval (1)) rfl), trivial⟩ ⟨hq.1, hq.2.1, (hq.2.2.sift fun y hy => Or.inr (N y hy)).mono (by decide) (by decide)⟩⟩
theorem main_1_1 : Claimed_1_1 := comes_1 fun _ _ _ _ _ _ h hF => ⟨h.1, hF⟩
theorem main_1_2 : Claimed_1_2 := comes_1 fun _ _ _ _ _ _ h hF => ⟨h.2.1, hF⟩
end Jvm.Pilot.@@N@@
namespace Jvm.Pilot.@@N@@
open Jvm Jvm.ClassFile Sem Op Lib Jvm.Free Jvm.Stand Jvm.Pilot.@@N@@.Jvm.D
/-! MADE BY PROGRAM (witnessworld.py) out of the Statement's table words and the real class files: 9 classes; the members and pool entries that the words name. The judged class is class 1, her method 1. -/
namespace start1
open Jvm.ClassFile
def u (s : String) : CpInfo := .utf8 (stringToUtf16 s)
/-- a pool by its gaps: so many unusable entries, then the entry; so many at the end -/
def gap : Nat → List CpInfo → List CpInfo
  | 0, r => r
  | n + 1, r => .unusable :: gap n r
def poolList (es : List (Nat × CpInfo)) (last : Nat) : List CpInfo := es.foldr (fun e r => gap e.1 (e.2 :: r)) (gap last [])
def pool (es : List (Nat × CpInfo)) (last : Nat) : Array CpInfo := ⟨poolList es last⟩
def fileOf (pool : Array CpInfo) (this : Nat) (attrs : Array Attribute := #[]) (ms : Array MethodInfo := #[]) (fl : Nat := 33) (sup : Nat := 0) (ifs : Array Nat := #[]) (fds : Array FieldInfo := #[]) : ClassFile where
  minorVersion := 0
  majorVersion := 65
  constantPool := pool
  accessFlags := fl
  thisClass := this
  superClass := sup
  interfaces := ifs
  fields := fds
  methods := ms
  attributes := attrs
def plain (name : String) (sup : Option ClassId) : Class where
  name := name
  kind := .ordinary
  loader := none
  accessFlags := 33
  super := sup
  interfaces := #[]
  cf := none
  fields := #[]
  methods := #[]
  instanceTypes := #[]
  staticTypes := #[]
  resolved := #[]
  callSites := []
  init := .initialized
  statics := none
  mirror := none

def pool0 : Array CpInfo := pool [(5, u "<init>"), (0, u "()V"), (1, .class_ 10), (1, u "java/lang/Object")] 113

def k0m0 : Method := { name := "<init>", desc := "()V", sig := { parameters := [], returnType := none }, accessFlags := 1, code := none }
/-- java/lang/Object -/
def k0 : Class := { plain "java/lang/Object" none with
  accessFlags := 33
  interfaces := #[]
  cf := some (fileOf pool0 8 #[] #[{ accessFlags := 1, nameIndex := 5, descriptorIndex := 6, attributes := #[] }] 33 0 #[] #[])
  fields := #[]
  methods := #[k0m0]
  instanceTypes := #[]
  staticTypes := #[]
  resolved := Array.replicate 124 none
  statics := none }

def pool1 : Array CpInfo := pool [(2, .class_ 4), (1, u "java/lang/Object"), (0, u "<init>"), (0, u "()V"), (0, .methodref 8 9), (0, .class_ 10), (0, .nameAndType 11 12), (0, u "com/example/dhole/dhole/event/EventTimeUsualNanosPinLaw"), (0, u "raw"), (0, u "(JJI)B"), (0, .methodref 8 14), (0, .nameAndType 15 16), (0, u "draw"), (0, u "(JJII)B"), (0, .methodref 18 19), (0, .class_ 20), (0, .nameAndType 21 22), (0, u "com/example/dhole/dhole/event/EventTime"), (0, u "usualNanos"), (0, u "([BII)I"), (0, .methodref 8 24), (0, .nameAndType 25 26), (0, u "isDigit"), (0, u "(B)Z"), (0, .integer 100000000), (0, .integer 10000000), (0, .integer 1000000), (0, .integer 100000), (2, u "law"), (0, u "(IIJJ)Z")] 5

def k1m0 : Method := { name := "<init>", desc := "()V", sig := { parameters := [], returnType := none }, accessFlags := 2, code := none }
def k1c1 : Code := { maxStack := 6, maxLocals := 25, code := code, exceptionTable := #[], attributes := #[] }
def k1m1 : Method := { name := "law", desc := "(IIJJ)Z", sig := { parameters := [.int, .int, .long, .long], returnType := some .boolean }, accessFlags := 9, code := some k1c1 }
def k1c2 : Code := { maxStack := 2, maxLocals := 1, code := method_3_code, exceptionTable := #[], attributes := #[] }
def k1m2 : Method := { name := "isDigit", desc := "(B)Z", sig := { parameters := [.byte], returnType := some .boolean }, accessFlags := 10, code := some k1c2 }
def k1c3 : Code := { maxStack := 5, maxLocals := 5, code := method_4_code, exceptionTable := #[], attributes := #[] }
def k1m3 : Method := { name := "raw", desc := "(JJI)B", sig := { parameters := [.long, .long, .int], returnType := some .byte }, accessFlags := 10, code := some k1c3 }
def k1c4 : Code := { maxStack := 5, maxLocals := 7, code := method_5_code, exceptionTable := #[], attributes := #[] }
def k1m4 : Method := { name := "draw", desc := "(JJII)B", sig := { parameters := [.long, .long, .int, .int], returnType := some .byte }, accessFlags := 10, code := some k1c4 }
/-- com/example/dhole/dhole/event/EventTimeUsualNanosPinLaw -/
def k1 : Class := { plain "com/example/dhole/dhole/event/EventTimeUsualNanosPinLaw" (some 0) with
  accessFlags := 49
  interfaces := #[]
  cf := some (fileOf pool1 8 #[] #[{ accessFlags := 2, nameIndex := 5, descriptorIndex := 6, attributes := #[] }, { accessFlags := 9, nameIndex := 33, descriptorIndex := 34, attributes := #[] }, { accessFlags := 10, nameIndex := 25, descriptorIndex := 26, attributes := #[] }, { accessFlags := 10, nameIndex := 11, descriptorIndex := 12, attributes := #[] }, { accessFlags := 10, nameIndex := 15, descriptorIndex := 16, attributes := #[] }] 49 2 #[] #[])
  fields := #[]
  methods := #[k1m0, k1m1, k1m2, k1m3, k1m4]
  instanceTypes := #[]
  staticTypes := #[]
  resolved := Array.replicate 40 none
  statics := none }

def pool2 : Array CpInfo := pool [(4, .class_ 6), (1, u "java/lang/Object"), (3, .class_ 12), (1, u "com/example/dhole/dhole/event/EventTime"), (0, u "instant"), (0, u "Ljava/time/Instant;"), (2, u "fraction"), (0, u "Z"), (14, u "ISO_WITH_ZONE"), (0, u "Ljava/time/format/DateTimeFormatter;"), (18, u "SPACED_UTC_UNLESS_ZONED"), (2, u "ISO_UTC_UNLESS_ZONED"), (6, .integer 100000000), (0, .methodref 10 65), (0, .nameAndType 66 67), (0, u "isDigit"), (0, u "(B)Z"), (2, u "EARLIEST"), (8, u "LATEST"), (16, u "UTC_MILLISECONDS"), (2, u "UTC_SECONDS"), (97, u "usualNanos"), (0, u "([BII)I"), (93, u "NOT_USUAL"), (0, u "J"), (1, u "OUTSIDE_YEARS"), (0, u "Ljava/lang/String;"), (0, u "MONTH_AT"), (0, u "I"), (1, u "DAY_AT"), (1, u "SEPARATOR_AT"), (1, u "HOUR_AT"), (1, u "MINUTE_AT"), (1, u "SECOND_AT"), (1, u "FRACTION_AT"), (1, u "MAX_OFFSET_SECONDS"), (0, u "MAX_FRACTION_DIGITS")] 16

def k2c0 : Code := { maxStack := 3, maxLocals := 7, code := prog_8_method_5_code, exceptionTable := #[], attributes := #[] }
def k2m0 : Method := { name := "usualNanos", desc := "([BII)I", sig := { parameters := [(.array .byte), .int, .int], returnType := some .int }, accessFlags := 9, code := some k2c0 }
def k2c1 : Code := { maxStack := 2, maxLocals := 1, code := prog_8_method_15_code, exceptionTable := #[], attributes := #[] }
def k2m1 : Method := { name := "isDigit", desc := "(B)Z", sig := { parameters := [.byte], returnType := some .boolean }, accessFlags := 10, code := some k2c1 }
/-- com/example/dhole/dhole/event/EventTime -/
def k2 : Class := { plain "com/example/dhole/dhole/event/EventTime" (some 0) with
  accessFlags := 49
  interfaces := #[]
  cf := some (fileOf pool2 10 #[] #[{ accessFlags := 9, nameIndex := 197, descriptorIndex := 198, attributes := #[] }, { accessFlags := 10, nameIndex := 66, descriptorIndex := 67, attributes := #[] }] 49 4 #[] #[{ accessFlags := 25, nameIndex := 292, descriptorIndex := 293, attributes := #[] }, { accessFlags := 26, nameIndex := 33, descriptorIndex := 34, attributes := #[] }, { accessFlags := 26, nameIndex := 56, descriptorIndex := 34, attributes := #[] }, { accessFlags := 26, nameIndex := 53, descriptorIndex := 34, attributes := #[] }, { accessFlags := 26, nameIndex := 99, descriptorIndex := 34, attributes := #[] }, { accessFlags := 26, nameIndex := 96, descriptorIndex := 34, attributes := #[] }, { accessFlags := 26, nameIndex := 70, descriptorIndex := 14, attributes := #[] }, { accessFlags := 26, nameIndex := 79, descriptorIndex := 14, attributes := #[] }, { accessFlags := 26, nameIndex := 295, descriptorIndex := 296, attributes := #[] }, { accessFlags := 26, nameIndex := 297, descriptorIndex := 298, attributes := #[] }, { accessFlags := 26, nameIndex := 300, descriptorIndex := 298, attributes := #[] }, { accessFlags := 26, nameIndex := 302, descriptorIndex := 298, attributes := #[] }, { accessFlags := 26, nameIndex := 304, descriptorIndex := 298, attributes := #[] }, { accessFlags := 26, nameIndex := 306, descriptorIndex := 298, attributes := #[] }, { accessFlags := 26, nameIndex := 308, descriptorIndex := 298, attributes := #[] }, { accessFlags := 26, nameIndex := 310, descriptorIndex := 298, attributes := #[] }, { accessFlags := 26, nameIndex := 312, descriptorIndex := 298, attributes := #[] }, { accessFlags := 26, nameIndex := 313, descriptorIndex := 298, attributes := #[] }, { accessFlags := 18, nameIndex := 13, descriptorIndex := 14, attributes := #[] }, { accessFlags := 18, nameIndex := 17, descriptorIndex := 18, attributes := #[] }])
  fields := #[{ name := "NOT_USUAL", type := .long, accessFlags := 25, slot := 0, constantValue := 0 }, { name := "ISO_WITH_ZONE", type := (.object "java/time/format/DateTimeFormatter"), accessFlags := 26, slot := 1, constantValue := 0 }, { name := "ISO_UTC_UNLESS_ZONED", type := (.object "java/time/format/DateTimeFormatter"), accessFlags := 26, slot := 2, constantValue := 0 }, { name := "SPACED_UTC_UNLESS_ZONED", type := (.object "java/time/format/DateTimeFormatter"), accessFlags := 26, slot := 3, constantValue := 0 }, { name := "UTC_SECONDS", type := (.object "java/time/format/DateTimeFormatter"), accessFlags := 26, slot := 4, constantValue := 0 }, { name := "UTC_MILLISECONDS", type := (.object "java/time/format/DateTimeFormatter"), accessFlags := 26, slot := 5, constantValue := 0 }, { name := "EARLIEST", type := (.object "java/time/Instant"), accessFlags := 26, slot := 6, constantValue := 0 }, { name := "LATEST", type := (.object "java/time/Instant"), accessFlags := 26, slot := 7, constantValue := 0 }, { name := "OUTSIDE_YEARS", type := (.object "java/lang/String"), accessFlags := 26, slot := 8, constantValue := 0 }, { name := "MONTH_AT", type := .int, accessFlags := 26, slot := 9, constantValue := 0 }, { name := "DAY_AT", type := .int, accessFlags := 26, slot := 10, constantValue := 0 }, { name := "SEPARATOR_AT", type := .int, accessFlags := 26, slot := 11, constantValue := 0 }, { name := "HOUR_AT", type := .int, accessFlags := 26, slot := 12, constantValue := 0 }, { name := "MINUTE_AT", type := .int, accessFlags := 26, slot := 13, constantValue := 0 }, { name := "SECOND_AT", type := .int, accessFlags := 26, slot := 14, constantValue := 0 }, { name := "FRACTION_AT", type := .int, accessFlags := 26, slot := 15, constantValue := 0 }, { name := "MAX_OFFSET_SECONDS", type := .int, accessFlags := 26, slot := 16, constantValue := 0 }, { name := "MAX_FRACTION_DIGITS", type := .int, accessFlags := 26, slot := 17, constantValue := 0 }, { name := "instant", type := (.object "java/time/Instant"), accessFlags := 18, slot := 0, constantValue := 0 }, { name := "fraction", type := .boolean, accessFlags := 18, slot := 1, constantValue := 0 }]
  methods := #[k2m0, k2m1]
  instanceTypes := #[(.object "java/time/Instant"), .boolean]
  staticTypes := #[.long, (.object "java/time/format/DateTimeFormatter"), (.object "java/time/format/DateTimeFormatter"), (.object "java/time/format/DateTimeFormatter"), (.object "java/time/format/DateTimeFormatter"), (.object "java/time/format/DateTimeFormatter"), (.object "java/time/Instant"), (.object "java/time/Instant"), (.object "java/lang/String"), .int, .int, .int, .int, .int, .int, .int, .int, .int]
  resolved := Array.replicate 330 none
  statics := none }

def pool3 : Array CpInfo := pool [(1, u "java/lang/Cloneable"), (0, .class_ 1), (0, u "java/lang/Object"), (0, .class_ 3)] 3

/-- java/lang/Cloneable -/
def k3 : Class := { plain "java/lang/Cloneable" (some 0) with
  accessFlags := 1537
  interfaces := #[]
  cf := some (fileOf pool3 2 #[] #[] 1537 4 #[] #[])
  fields := #[]
  methods := #[]
  instanceTypes := #[]
  staticTypes := #[]
  resolved := Array.replicate 8 none
  statics := none }

def pool4 : Array CpInfo := pool [(1, u "java/io/Serializable"), (0, .class_ 1), (0, u "java/lang/Object"), (0, .class_ 3)] 3

/-- java/io/Serializable -/
def k4 : Class := { plain "java/io/Serializable" (some 0) with
  accessFlags := 1537
  interfaces := #[]
  cf := some (fileOf pool4 2 #[] #[] 1537 4 #[] #[])
  fields := #[]
  methods := #[]
  instanceTypes := #[]
  staticTypes := #[]
  resolved := Array.replicate 8 none
  statics := none }

/-- the primitive byte -/
def k5 : Class := { plain "byte" none with kind := .primitive 'B', accessFlags := 0x411 }
/-- [B -/
def k6 : Class := { plain "[B" (some 0) with kind := .array 5 .byte, interfaces := #[3, 4], accessFlags := 1041 }

/-- the primitive int -/
def k7 : Class := { plain "int" none with kind := .primitive 'I', accessFlags := 0x411 }
/-- [I -/
def k8 : Class := { plain "[I" (some 0) with kind := .array 7 .int, interfaces := #[3, 4], accessFlags := 1041 }

def heap : Heap := #[]
def classes : Array Class := #[k0, k1, k2, k3, k4, k5, k6, k7, k8]
def interned : List (Array UInt16 × Addr) := []
def slotsUsed : Nat := 0
def theMethod : MethodId := ⟨1, 1⟩
def args0 : Array Value := #[.int 5, .int 3, .long 5, .long 3]
def aboutOver (below : List Frame) : State where
  vm := { classes := classes, interned := interned.toArray }
  heap := heap
  slotsUsed := slotsUsed
  threads := #[{ frames := .invoking theMethod args0 :: below }]
def below0 : List Frame := [.native { method := ⟨0, 0⟩, args := #[] }]
def about1 : State := aboutOver below0
def p0 : Program := .bare "" "" ""
def e0 : Env := launch0.env 0 0 0
theorem w_frames : about1.frames = Frame.invoking theMethod args0 :: below0 := rfl
set_option maxRecDepth 65536 in
theorem w_args : argsFit about1.vm theMethod args0 = true := by decide +kernel
set_option maxRecDepth 65536 in
theorem w_heap : heapFits about1 = true := by decide +kernel
set_option maxRecDepth 65536 in
theorem w_runnable : about1.curStatus? = some .runnable := by decide +kernel
set_option maxRecDepth 65536 in
theorem w_alone : about1.alone = true := by decide +kernel
set_option maxRecDepth 65536 in
theorem w_named : about1.methodNamed? x = some theMethod := by decide +kernel
set_option maxRecDepth 65536 in
theorem w_hears : about1.hears theMethod below0 = true := by decide +kernel
set_option maxRecDepth 65536 in
theorem w_ripe : about1.ripe theMethod args0 below0 = true := by decide +kernel
theorem w_running : about1.status = .running := rfl
set_option maxRecDepth 65536 in
theorem w_room : about1.hasRoom e0.platform room_1 = true :=
  launch0.hasRoom_least _ room_1 (by decide +kernel) (by decide +kernel) (by decide +kernel) (by decide +kernel) (by decide +kernel) (by decide +kernel)
theorem allAtoms_all (ts : List Jvm.Cond) (a : Array Jvm.Value) (st : Jvm.State) : (allAtoms ts).before a st = ts.all (fun c => c.before a st) := by
  induction ts with
  | nil => rfl
  | cons c t ih =>
    show (Jvm.Cond.and c (allAtoms t)).before a st = _
    rw [Jvm.Cond.before_and, ih, List.all_cons]
def words1 : List Jvm.Cond := Jvm.Cond.code x code maxLocals ret :: tables_1
/-- a 'code' word, met by the world's own term for the bytes: nothing is compared byte by byte -/
theorem code_word {y : MethodName} {bytes : ByteArray} {mx : Nat} {rt : Option FieldType} {a : Array Value} {s : State} {m : MethodId} {meth : Method} {c : Code} (h1 : s.methodNamed? y = some m) (h2 : s.vm.method? m = some meth) (h3 : meth.code = some c) (h4 : c.code = bytes)
    (h5 : (c.maxLocals == mx && c.exceptionTable.isEmpty && decide (c.maxStack ≤ mostOperands) && decide (meth.sig.returnType = rt) && !meth.locks && decide (parseMethodDescriptor y.desc = some meth.sig)) = true) : (Jvm.Cond.code y bytes mx rt).before a s = true := by
  simp only [Bool.and_eq_true, beq_iff_eq, Bool.not_eq_true', decide_eq_true_eq] at h5
  obtain ⟨⟨⟨⟨⟨g1, g2⟩, g3⟩, g4⟩, g5⟩, g6⟩ := h5
  simp [Cond.before, Cond.holds, Cond.value, h1, h2, h3, h4, g1, g2, g3, g4, g5, g6]
def isCode : Jvm.Cond → Bool
  | .code _ _ _ _ => true
  | _ => false
theorem all_split {L : List Jvm.Cond} {P : Jvm.Cond → Bool} (h1 : L.all (fun c => isCode c || P c) = true) (h2 : ∀ c ∈ L.filter isCode, P c = true) : L.all P = true := by
  refine List.all_eq_true.mpr fun c hc => ?_
  have h := List.all_eq_true.mp h1 c hc
  rcases Bool.eq_false_or_eq_true (isCode c) with hi | hi
  · exact h2 c (List.mem_filter.mpr ⟨hc, hi⟩)
  · simpa [hi] using h
set_option maxRecDepth 65536 in
theorem w_c0 : (Jvm.Cond.code x code maxLocals ret).before args0 about1 = true := code_word (m := ⟨1, 1⟩) (meth := k1m1) (c := k1c1) (by decide +kernel) rfl rfl rfl (by decide +kernel)
set_option maxRecDepth 65536 in
theorem w_c1 : (Jvm.Cond.code ({ cls := "com/example/dhole/dhole/event/EventTimeUsualNanosPinLaw", name := "draw", desc := "(JJII)B" } : Jvm.MethodName) method_5_code (7 : Nat) (Option.some Jvm.ClassFile.FieldType.byte)).before args0 about1 = true := code_word (m := ⟨1, 4⟩) (meth := k1m4) (c := k1c4) (by decide +kernel) rfl rfl rfl (by decide +kernel)
set_option maxRecDepth 65536 in
theorem w_c2 : (Jvm.Cond.code ({ cls := "com/example/dhole/dhole/event/EventTimeUsualNanosPinLaw", name := "raw", desc := "(JJI)B" } : Jvm.MethodName) method_4_code (5 : Nat) (Option.some Jvm.ClassFile.FieldType.byte)).before args0 about1 = true := code_word (m := ⟨1, 3⟩) (meth := k1m3) (c := k1c3) (by decide +kernel) rfl rfl rfl (by decide +kernel)
set_option maxRecDepth 65536 in
theorem w_c3 : (Jvm.Cond.code ({ cls := "com/example/dhole/dhole/event/EventTime", name := "usualNanos", desc := "([BII)I" } : Jvm.MethodName) prog_8_method_5_code (7 : Nat) (Option.some Jvm.ClassFile.FieldType.int)).before args0 about1 = true := code_word (m := ⟨2, 0⟩) (meth := k2m0) (c := k2c0) (by decide +kernel) rfl rfl rfl (by decide +kernel)
set_option maxRecDepth 65536 in
theorem w_c4 : (Jvm.Cond.code ({ cls := "com/example/dhole/dhole/event/EventTime", name := "isDigit", desc := "(B)Z" } : Jvm.MethodName) prog_8_method_15_code (1 : Nat) (Option.some Jvm.ClassFile.FieldType.boolean)).before args0 about1 = true := code_word (m := ⟨2, 1⟩) (meth := k2m1) (c := k2c1) (by decide +kernel) rfl rfl rfl (by decide +kernel)
set_option maxRecDepth 65536 in
theorem w_c5 : (Jvm.Cond.code ({ cls := "com/example/dhole/dhole/event/EventTimeUsualNanosPinLaw", name := "isDigit", desc := "(B)Z" } : Jvm.MethodName) method_3_code (1 : Nat) (Option.some Jvm.ClassFile.FieldType.boolean)).before args0 about1 = true := code_word (m := ⟨1, 2⟩) (meth := k1m2) (c := k1c2) (by decide +kernel) rfl rfl rfl (by decide +kernel)
def codes1 : List Jvm.Cond := [Jvm.Cond.code x code maxLocals ret, Jvm.Cond.code ({ cls := "com/example/dhole/dhole/event/EventTimeUsualNanosPinLaw", name := "draw", desc := "(JJII)B" } : Jvm.MethodName) method_5_code (7 : Nat) (Option.some Jvm.ClassFile.FieldType.byte), Jvm.Cond.code ({ cls := "com/example/dhole/dhole/event/EventTimeUsualNanosPinLaw", name := "raw", desc := "(JJI)B" } : Jvm.MethodName) method_4_code (5 : Nat) (Option.some Jvm.ClassFile.FieldType.byte), Jvm.Cond.code ({ cls := "com/example/dhole/dhole/event/EventTime", name := "usualNanos", desc := "([BII)I" } : Jvm.MethodName) prog_8_method_5_code (7 : Nat) (Option.some Jvm.ClassFile.FieldType.int), Jvm.Cond.code ({ cls := "com/example/dhole/dhole/event/EventTime", name := "isDigit", desc := "(B)Z" } : Jvm.MethodName) prog_8_method_15_code (1 : Nat) (Option.some Jvm.ClassFile.FieldType.boolean), Jvm.Cond.code ({ cls := "com/example/dhole/dhole/event/EventTimeUsualNanosPinLaw", name := "isDigit", desc := "(B)Z" } : Jvm.MethodName) method_3_code (1 : Nat) (Option.some Jvm.ClassFile.FieldType.boolean)]
set_option maxRecDepth 65536 in
theorem codes_eq : words1.filter isCode = codes1 := rfl
theorem w_codes : ∀ c ∈ words1.filter isCode, c.before args0 about1 = true := by
  rw [codes_eq]
  intro c hc
  simp only [codes1, List.mem_cons, List.not_mem_nil, or_false] at hc
  rcases hc with rfl | rfl | rfl | rfl | rfl | rfl
  · exact w_c0
  · exact w_c1
  · exact w_c2
  · exact w_c3
  · exact w_c4
  · exact w_c5
set_option maxRecDepth 65536 in
theorem w_t1 : words1.all (fun c => isCode c || c.before args0 about1) = true := by decide +kernel
theorem w_tables : (allAtoms (Jvm.Cond.code x code maxLocals ret :: tables_1)).before args0 about1 = true := by
  rw [allAtoms_all]
  show words1.all (fun c => c.before args0 about1) = true
  refine all_split ?_ w_codes
  rw [w_t1]
set_option maxRecDepth 65536 in
theorem w_case : (Jvm.Cond.and given_1 narrow_1).before args0 about1 = true := by decide +kernel
theorem w_applies : (headSpec (Jvm.Cond.code x code maxLocals ret :: tables_1) room_1).applies x e0.platform about1 = true :=
  (Spec.applies_iff w_frames).mpr ⟨w_running, w_runnable, w_alone, w_named, w_hears, w_ripe, w_room, w_tables⟩
theorem atStart : AtStart classFile x code maxLocals ret World_1 tables_1 room_1 Calls_1 rest_1 Pre_1 launch0 p0 e0 about1 theMethod args0 below0 :=
  ⟨lists_1, trivial, launch0.admits_env _ _ _, launch0.least_env, fairChoices_fair.cas, fairChoices_fair.clock, w_frames, w_args, w_heap, w_applies, trivial, trivial, w_case⟩
end start1
theorem witness_1 : WitnessClaimed_1 := ⟨start1.p0, start1.e0, start1.about1, start1.theMethod, start1.args0, start1.below0, start1.atStart⟩
end Jvm.Pilot.@@N@@
