import JvmDerived
import JvmDerived.Pilot.@@N@@Statement
import JvmDerived.Pilot.@@N@@Code
set_option linter.unusedVariables false
set_option linter.unusedSimpArgs false
namespace Jvm.RoadKit
open Sem ClassFile Op Lib Jvm.Stand Jvm.Free Jvm.LawKit
section New
variable {p : Program} {l : Launch} {e : Env} {R : Room} {s : State} {m : MethodId} {args : Array Value} {below : List Frame} {meth : Method} {c : Code} {T : State} {locs : List Loc} {cells slots : Nat}
theorem retI (X : Stand p l e R s m args below meth c T locs cells slots) (hx : p.tables.exec = Jvm.exec) {pc : Nat} {Ls : Array Slot} {z : Int32} {rest : List Value} (hret : meth.sig.returnType = some .int) (hd : decode c.code pc = .ok (.ireturn, 1)) {fs : List Frame}
    (hl : ∀ (f : JFrame) (acts : List Action), f.method = m → f.locked = none → f.entered = [] → (doReturn e (T.setTop f) acts (some (.int z))).1 = T.setFrames fs) : Steps p.tables e below (T.setTop (mkF m pc Ls (.int z :: rest))) (T.setFrames fs) := by
  have hm' : T.vm.method? m = some meth := X.method'
  have hn : narrow .int (.int z) = .int z := rfl
  show Steps p.tables e below (T.setTop { method := m, pc := pc, locals := Ls, stack := _ :: rest, locked := none }) _
  jvm_step X.here [X.here.top, hx, hd, hm', hret, hn]
  first | (intro acts; rw [hl _ acts rfl rfl rfl]) | rw [hl _ _ rfl rfl rfl]
  exact Steps.refl _
end New
end Jvm.RoadKit
namespace Jvm.Pilot.@@N@@
open Jvm Jvm.ClassFile Sem Op Lib Jvm.Free Jvm.Stand Jvm.LawKit Jvm.RoadKit Bundle Jvm.Pilot.@@N@@.Jvm.D
section Own
variable {p : Program} {l : Launch} {e : Env} {R : Room} {s : State} {m : MethodId} {args : Array Value} {below : List Frame} {meth : Method} {c : Code} {T : State} {locs : List Loc} {cells slots : Nat} {Z : State} {a0 : Array Value} {h h' : Heap} {n0 : Nat} {Q : Option Value → Heap → Prop} {kc ks : Nat} {Ls : Array Slot} {St : List Value} {pc : Nat} {own nm : String} {bytes : ByteArray} {maxL : Nat} {ret : Option FieldType}
/-- the rest of a run: from S the method ends by returning; Q says what it returns and leaves; nothing below n0 is written -/
def OGo (p : Program) (e : Env) (below : List Frame) (s : State) (n0 : Nat) (Q : Option Value → Heap → Prop) (kc ks : Nat) (S : State) : Prop :=
  ∃ U o, Steps p.tables e below S U ∧ U.status = .running ∧ Ended U below o ∧ ∃ v L, o = .returned v ∧ (Q v U.heap ∧ Fr n0 L) ∧ FrameEnd s o U L kc ks
theorem OGo.st {A B : State} (k : ∀ t, Steps p.tables e below A t → Steps p.tables e below B t) (g : OGo p e below s n0 Q kc ks A) : OGo p e below s n0 Q kc ks B := by
  obtain ⟨U, o, h1, r⟩ := g
  exact ⟨U, o, k U h1, r⟩
theorem OGo.imp {A : State} {Q' : Option Value → Heap → Prop} (k : ∀ v h, Q' v h → Q v h) (g : OGo p e below s n0 Q' kc ks A) : OGo p e below s n0 Q kc ks A := by
  obtain ⟨U, o, h1, h2, h3, v, L, h4, ⟨h5, h6⟩, h7⟩ := g
  exact ⟨U, o, h1, h2, h3, v, L, h4, ⟨k _ _ h5, h6⟩, h7⟩
/-- what a walk knows of the method in which it stands -/
def OCx (p : Program) (s : State) (m : MethodId) (meth : Method) (c : Code) (Z : State) (own nm : String) (bytes : ByteArray) (maxL : Nat) (ret : Option FieldType) : Prop :=
  p.tables.exec = Jvm.exec ∧ Z.Warmed39 s.vm ∧ c.code = bytes ∧ c.maxLocals = maxL ∧ s.vm.findClass own = some m.cls ∧ meth.name = nm ∧ meth.sig.returnType = ret ∧ meth.locks = false
theorem OCx.hx (K : OCx p s m meth c Z own nm bytes maxL ret) : p.tables.exec = Jvm.exec := K.1
theorem OCx.hZ (K : OCx p s m meth c Z own nm bytes maxL ret) : Z.Warmed39 s.vm := K.2.1
theorem OCx.hby (K : OCx p s m meth c Z own nm bytes maxL ret) : c.code = bytes := K.2.2.1
theorem OCx.hml (K : OCx p s m meth c Z own nm bytes maxL ret) : c.maxLocals = maxL := K.2.2.2.1
theorem OCx.hown (K : OCx p s m meth c Z own nm bytes maxL ret) : s.vm.findClass own = some m.cls := K.2.2.2.2.1
theorem OCx.hnm (K : OCx p s m meth c Z own nm bytes maxL ret) : meth.name = nm := K.2.2.2.2.2.1
theorem OCx.hret (K : OCx p s m meth c Z own nm bytes maxL ret) : meth.sig.returnType = ret := K.2.2.2.2.2.2.1
theorem OCx.hlk (K : OCx p s m meth c Z own nm bytes maxL ret) : meth.locks = false := K.2.2.2.2.2.2.2
/-- a body's contract: called with these arguments at this heap it returns, and Q -/
def OCon (l : Launch) (Z : State) (n0 : Nat) (y : MethodName) (bytes : ByteArray) (maxL : Nat) (ret : Option FieldType) (rm : Room) (as : Array Value) (h0 : Heap) (Q : Option Value → Heap → Prop) : Prop :=
  ∀ ws, MetFree l y (head1 (Jvm.Cond.code y bytes maxL ret :: ws) rm) (fun a U => a = as ∧ Z.Warmed39 U.vm ∧ U.heap = h0) (fun _ _ _ _ _ => True) (fun _ U o U' => ∃ v L, o = .returned v ∧ (Q v U'.heap ∧ Fr n0 L) ∧ FrameEnd U o U' L rm.cells rm.slots)
theorem OCon.of {y : MethodName} {rm : Room} {as : Array Value} {h0 : Heap} {Ls : Array Slot} (hpl : plainFor y = true) (ho : y.cls = own) (hn : y.name = nm) (hen : ∀ m, entryFrame m as maxL = mkF m 0 Ls [])
    (H : ∀ (p : Program) (e : Env) (s : State) (m : MethodId) (below : List Frame) (meth : Method) (c : Code) (T : State), Stand p l e rm s m as below meth c T [] 0 0 → OCx p s m meth c Z own nm bytes maxL ret → T.heap = h0 → OGo p e below s n0 Q rm.cells rm.slots (T.setTop (mkF m 0 Ls []))) : OCon l Z n0 y bytes maxL ret rm as h0 Q := by
  intro ws
  refine MetFree.of_bodySF hpl hisR ?_
  intro p e s m args below meth c s₁ Bd hml0 hP hK
  obtain ⟨rfl, hZ, hh⟩ := hP
  subst ho hn
  obtain ⟨U, o, h1, r⟩ := H p e s m below meth c s₁ (Stand.of_body Bd) ⟨Bd.exec, hZ, Bd.bytes, hml0, findClass_of_methodNamed Bd.named, (name_of_methodNamed Bd.named Bd.method).1, Bd.returns, Bd.notSynchronized⟩ (by rw [← hh, Bd.state]; rfl)
  exact ⟨U, o, castTop (hen m) h1, r⟩
theorem OCon.imp {y : MethodName} {rm : Room} {as : Array Value} {h0 : Heap} {Q' : Option Value → Heap → Prop} (g : OCon l Z n0 y bytes maxL ret rm as h0 Q) (k : ∀ v h, Q v h → Q' v h) : OCon l Z n0 y bytes maxL ret rm as h0 Q' := by
  intro ws p e ha hc hk s m args below hf happ hP hK
  obtain ⟨n, o, h1, h2, h3, v, L, h4, ⟨h5, h6⟩, h7⟩ := g ws p e ha hc hk s m args below hf happ hP hK
  exact ⟨n, o, h1, h2, h3, v, L, h4, ⟨k _ _ h5, h6⟩, h7⟩

theorem o_iload (X : Stand p l e R s m args below meth c T locs cells slots) (K : OCx p s m meth c Z own nm bytes maxL ret) {k : Nat} {v : Int32} (hd : decode bytes pc = .ok (.iload k, 2)) (pc' : Nat) (hp : pc + 2 = pc') (hl : Ls[k]? = some (.val (.int v))) (hr : OGo p e below s n0 Q kc ks (T.setTop (mkF m pc' Ls (.int v :: St)))) : OGo p e below s n0 Q kc ks (T.setTop (mkF m pc Ls St)) := by
  subst hp
  exact OGo.st (fun _ k => XS.iload X.here K.hx rfl (hb K.hby hd) hl k) hr
theorem o_iloadN (X : Stand p l e R s m args below meth c T locs cells slots) (K : OCx p s m meth c Z own nm bytes maxL ret) {k : Fin 4} {v : Int32} (hd : decode bytes pc = .ok (.iload_n k, 1)) (pc' : Nat) (hp : pc + 1 = pc') (hl : Ls[k.val]? = some (.val (.int v))) (hr : OGo p e below s n0 Q kc ks (T.setTop (mkF m pc' Ls (.int v :: St)))) : OGo p e below s n0 Q kc ks (T.setTop (mkF m pc Ls St)) := by
  subst hp
  exact OGo.st (fun _ k => XS.iloadN X.here K.hx rfl (hb K.hby hd) hl k) hr
theorem o_lload (X : Stand p l e R s m args below meth c T locs cells slots) (K : OCx p s m meth c Z own nm bytes maxL ret) {k : Nat} {v : Int64} (hd : decode bytes pc = .ok (.lload k, 2)) (pc' : Nat) (hp : pc + 2 = pc') (hl : Ls[k]? = some (.val (.long v))) (hr : OGo p e below s n0 Q kc ks (T.setTop (mkF m pc' Ls (.long v :: St)))) : OGo p e below s n0 Q kc ks (T.setTop (mkF m pc Ls St)) := by
  subst hp
  exact OGo.st (fun _ k => XS.lload X.here K.hx rfl (hb K.hby hd) hl k) hr
theorem o_lloadN (X : Stand p l e R s m args below meth c T locs cells slots) (K : OCx p s m meth c Z own nm bytes maxL ret) {k : Fin 4} {v : Int64} (hd : decode bytes pc = .ok (.lload_n k, 1)) (pc' : Nat) (hp : pc + 1 = pc') (hl : Ls[k.val]? = some (.val (.long v))) (hr : OGo p e below s n0 Q kc ks (T.setTop (mkF m pc' Ls (.long v :: St)))) : OGo p e below s n0 Q kc ks (T.setTop (mkF m pc Ls St)) := by
  subst hp
  exact OGo.st (fun _ k => XS.lloadN X.here K.hx rfl (hb K.hby hd) hl k) hr
theorem o_aload (X : Stand p l e R s m args below meth c T locs cells slots) (K : OCx p s m meth c Z own nm bytes maxL ret) {k : Nat} {v : Value} (hd : decode bytes pc = .ok (.aload k, 2)) (pc' : Nat) (hp : pc + 2 = pc') (hl : Ls[k]? = some (.val v)) (hv : v.isRef = true) (hr : OGo p e below s n0 Q kc ks (T.setTop (mkF m pc' Ls (v :: St)))) : OGo p e below s n0 Q kc ks (T.setTop (mkF m pc Ls St)) := by
  subst hp
  exact OGo.st (fun _ k => XS.aload X.here K.hx rfl (hb K.hby hd) hl hv k) hr
theorem o_aloadN (X : Stand p l e R s m args below meth c T locs cells slots) (K : OCx p s m meth c Z own nm bytes maxL ret) {k : Fin 4} {v : Value} (hd : decode bytes pc = .ok (.aload_n k, 1)) (pc' : Nat) (hp : pc + 1 = pc') (hl : Ls[k.val]? = some (.val v)) (hv : v.isRef = true) (hr : OGo p e below s n0 Q kc ks (T.setTop (mkF m pc' Ls (v :: St)))) : OGo p e below s n0 Q kc ks (T.setTop (mkF m pc Ls St)) := by
  subst hp
  exact OGo.st (fun _ k => XS.aloadN X.here K.hx rfl (hb K.hby hd) hl hv k) hr
theorem o_istore (X : Stand p l e R s m args below meth c T locs cells slots) (K : OCx p s m meth c Z own nm bytes maxL ret) {k : Nat} {x x' : Int32} (hd : decode bytes pc = .ok (.istore k, 2)) (pc' : Nat) (hp : pc + 2 = pc') (Ls' : Array Slot) (hv : x = x') (hl : storeLocals Ls k (.int x') = some Ls') (hr : OGo p e below s n0 Q kc ks (T.setTop (mkF m pc' Ls' St))) : OGo p e below s n0 Q kc ks (T.setTop (mkF m pc Ls (.int x :: St))) := by
  subst hp
  exact OGo.st (fun _ k => XS.istore X.here K.hx rfl (hb K.hby hd) rfl (hv ▸ hl) k) hr
theorem o_istoreN (X : Stand p l e R s m args below meth c T locs cells slots) (K : OCx p s m meth c Z own nm bytes maxL ret) {k : Fin 4} {x x' : Int32} (hd : decode bytes pc = .ok (.istore_n k, 1)) (pc' : Nat) (hp : pc + 1 = pc') (Ls' : Array Slot) (hv : x = x') (hl : storeLocals Ls k.val (.int x') = some Ls') (hr : OGo p e below s n0 Q kc ks (T.setTop (mkF m pc' Ls' St))) : OGo p e below s n0 Q kc ks (T.setTop (mkF m pc Ls (.int x :: St))) := by
  subst hp
  exact OGo.st (fun _ k => XS.istoreN X.here K.hx rfl (hb K.hby hd) rfl (hv ▸ hl) k) hr
theorem o_lstore (X : Stand p l e R s m args below meth c T locs cells slots) (K : OCx p s m meth c Z own nm bytes maxL ret) {k : Nat} {x x' : Int64} (hd : decode bytes pc = .ok (.lstore k, 2)) (pc' : Nat) (hp : pc + 2 = pc') (Ls' : Array Slot) (hv : x = x') (hl : storeLocals Ls k (.long x') = some Ls') (hr : OGo p e below s n0 Q kc ks (T.setTop (mkF m pc' Ls' St))) : OGo p e below s n0 Q kc ks (T.setTop (mkF m pc Ls (.long x :: St))) := by
  subst hp
  exact OGo.st (fun _ k => XS.lstore X.here K.hx rfl (hb K.hby hd) rfl (hv ▸ hl) k) hr
theorem o_lstoreN (X : Stand p l e R s m args below meth c T locs cells slots) (K : OCx p s m meth c Z own nm bytes maxL ret) {k : Fin 4} {x x' : Int64} (hd : decode bytes pc = .ok (.lstore_n k, 1)) (pc' : Nat) (hp : pc + 1 = pc') (Ls' : Array Slot) (hv : x = x') (hl : storeLocals Ls k.val (.long x') = some Ls') (hr : OGo p e below s n0 Q kc ks (T.setTop (mkF m pc' Ls' St))) : OGo p e below s n0 Q kc ks (T.setTop (mkF m pc Ls (.long x :: St))) := by
  subst hp
  exact OGo.st (fun _ k => XS.lstoreN X.here K.hx rfl (hb K.hby hd) rfl (hv ▸ hl) k) hr
theorem o_astore (X : Stand p l e R s m args below meth c T locs cells slots) (K : OCx p s m meth c Z own nm bytes maxL ret) {k : Nat} {x : Value} (hd : decode bytes pc = .ok (.astore k, 2)) (pc' : Nat) (hp : pc + 2 = pc') (Ls' : Array Slot) (hv : x.isRef = true) (hl : storeLocals Ls k x = some Ls') (hr : OGo p e below s n0 Q kc ks (T.setTop (mkF m pc' Ls' St))) : OGo p e below s n0 Q kc ks (T.setTop (mkF m pc Ls (x :: St))) := by
  subst hp
  exact OGo.st (fun _ k => XS.astore X.here K.hx rfl (hb K.hby hd) rfl hv hl k) hr
theorem o_astoreN (X : Stand p l e R s m args below meth c T locs cells slots) (K : OCx p s m meth c Z own nm bytes maxL ret) {k : Fin 4} {x : Value} (hd : decode bytes pc = .ok (.astore_n k, 1)) (pc' : Nat) (hp : pc + 1 = pc') (Ls' : Array Slot) (hv : x.isRef = true) (hl : storeLocals Ls k.val x = some Ls') (hr : OGo p e below s n0 Q kc ks (T.setTop (mkF m pc' Ls' St))) : OGo p e below s n0 Q kc ks (T.setTop (mkF m pc Ls (x :: St))) := by
  subst hp
  exact OGo.st (fun _ k => XS.astoreN X.here K.hx rfl (hb K.hby hd) rfl hv hl k) hr
theorem o_iinc (X : Stand p l e R s m args below meth c T locs cells slots) (K : OCx p s m meth c Z own nm bytes maxL ret) {k : Nat} {cst : Int} {x x' : Int32} (hd : decode bytes pc = .ok (.iinc k cst, 3)) (pc' : Nat) (hp : pc + 3 = pc') (Ls' : Array Slot) (hl : Ls[k]? = some (.val (.int x))) (hv : x + Int32.ofInt cst = x') (hl' : storeLocals Ls k (.int x') = some Ls') (hr : OGo p e below s n0 Q kc ks (T.setTop (mkF m pc' Ls' St))) : OGo p e below s n0 Q kc ks (T.setTop (mkF m pc Ls St)) := by
  subst hp
  exact OGo.st (fun _ k => XS.iinc X.here K.hx rfl (hb K.hby hd) hl (hv ▸ hl') k) hr
theorem o_iconst (X : Stand p l e R s m args below meth c T locs cells slots) (K : OCx p s m meth c Z own nm bytes maxL ret) {i : Int} (v : Int32) (hd : decode bytes pc = .ok (.iconst i, 1)) (pc' : Nat) (hp : pc + 1 = pc') (hv : Int32.ofInt i = v) (hr : OGo p e below s n0 Q kc ks (T.setTop (mkF m pc' Ls (.int v :: St)))) : OGo p e below s n0 Q kc ks (T.setTop (mkF m pc Ls St)) := by
  subst hp
  exact OGo.st (fun _ k => XS.iconst X.here K.hx rfl (hb K.hby hd) (by rw [hv]; exact k)) hr
theorem o_bipush (X : Stand p l e R s m args below meth c T locs cells slots) (K : OCx p s m meth c Z own nm bytes maxL ret) {i : Int} (v : Int32) (hd : decode bytes pc = .ok (.bipush i, 2)) (pc' : Nat) (hp : pc + 2 = pc') (hv : (Int8.ofInt i).toInt32 = v) (hr : OGo p e below s n0 Q kc ks (T.setTop (mkF m pc' Ls (.int v :: St)))) : OGo p e below s n0 Q kc ks (T.setTop (mkF m pc Ls St)) := by
  subst hp
  exact OGo.st (fun _ k => XS.bipush X.here K.hx rfl (hb K.hby hd) (by rw [hv]; exact k)) hr
theorem o_sipush (X : Stand p l e R s m args below meth c T locs cells slots) (K : OCx p s m meth c Z own nm bytes maxL ret) {i : Int} (v : Int32) (hd : decode bytes pc = .ok (.sipush i, 3)) (pc' : Nat) (hp : pc + 3 = pc') (hv : (Int16.ofInt i).toInt32 = v) (hr : OGo p e below s n0 Q kc ks (T.setTop (mkF m pc' Ls (.int v :: St)))) : OGo p e below s n0 Q kc ks (T.setTop (mkF m pc Ls St)) := by
  subst hp
  exact OGo.st (fun _ k => XS.sipush X.here K.hx rfl (hb K.hby hd) (by rw [hv]; exact k)) hr
theorem o_lconst (X : Stand p l e R s m args below meth c T locs cells slots) (K : OCx p s m meth c Z own nm bytes maxL ret) {i : Fin 2} (v : Int64) (hd : decode bytes pc = .ok (.lconst i, 1)) (pc' : Nat) (hp : pc + 1 = pc') (hv : Int64.ofNat i = v) (hr : OGo p e below s n0 Q kc ks (T.setTop (mkF m pc' Ls (.long v :: St)))) : OGo p e below s n0 Q kc ks (T.setTop (mkF m pc Ls St)) := by
  subst hp
  exact OGo.st (fun _ k => XS.lconst X.here K.hx rfl (hb K.hby hd) (by rw [hv]; exact k)) hr
theorem o_aconst_null (X : Stand p l e R s m args below meth c T locs cells slots) (K : OCx p s m meth c Z own nm bytes maxL ret) (hd : decode bytes pc = .ok (.aconst_null, 1)) (pc' : Nat) (hp : pc + 1 = pc') (hr : OGo p e below s n0 Q kc ks (T.setTop (mkF m pc' Ls (.null :: St)))) : OGo p e below s n0 Q kc ks (T.setTop (mkF m pc Ls St)) := by
  subst hp
  exact OGo.st (fun _ k => XS.aconstNull X.here K.hx rfl (hb K.hby hd) k) hr
theorem o_ldcI (X : Stand p l e R s m args below meth c T locs cells slots) (K : OCx p s m meth c Z own nm bytes maxL ret) {index : Nat} {v : Int32} (hd : decode bytes pc = .ok (.ldc index, 2)) (pc' : Nat) (hp : pc + 2 = pc') (w : (Jvm.Cond.constant own index v).before a0 Z = true) (hr : OGo p e below s n0 Q kc ks (T.setTop (mkF m pc' Ls (.int v :: St)))) : OGo p e below s n0 Q kc ks (T.setTop (mkF m pc Ls St)) := by
  subst hp
  exact OGo.st (fun _ k => Stand.ldcI X K.hx K.hown (mvT K.hZ w) rfl (hb K.hby hd) k) hr
theorem o_ldcWI (X : Stand p l e R s m args below meth c T locs cells slots) (K : OCx p s m meth c Z own nm bytes maxL ret) {index : Nat} {v : Int32} (hd : decode bytes pc = .ok (.ldc_w index, 3)) (pc' : Nat) (hp : pc + 3 = pc') (w : (Jvm.Cond.constant own index v).before a0 Z = true) (hr : OGo p e below s n0 Q kc ks (T.setTop (mkF m pc' Ls (.int v :: St)))) : OGo p e below s n0 Q kc ks (T.setTop (mkF m pc Ls St)) := by
  subst hp
  exact OGo.st (fun _ k => Stand.ldcWI X K.hx K.hown (mvT K.hZ w) rfl (hb K.hby hd) k) hr
theorem o_ldc2J (X : Stand p l e R s m args below meth c T locs cells slots) (K : OCx p s m meth c Z own nm bytes maxL ret) {index : Nat} {v : Int64} (hd : decode bytes pc = .ok (.ldc2_w index, 3)) (pc' : Nat) (hp : pc + 3 = pc') (w : (Jvm.Cond.constantLong own index v).before a0 Z = true) (hr : OGo p e below s n0 Q kc ks (T.setTop (mkF m pc' Ls (.long v :: St)))) : OGo p e below s n0 Q kc ks (T.setTop (mkF m pc Ls St)) := by
  subst hp
  exact OGo.st (fun _ k => Stand.ldc2J X K.hx K.hown (mvT K.hZ w) rfl (hb K.hby hd) k) hr
theorem o_iadd (X : Stand p l e R s m args below meth c T locs cells slots) (K : OCx p s m meth c Z own nm bytes maxL ret) {x y : Int32} (hd : decode bytes pc = .ok (.iadd, 1)) (pc' : Nat) (hp : pc + 1 = pc') (hr : OGo p e below s n0 Q kc ks (T.setTop (mkF m pc' Ls (.int (x + y) :: St)))) : OGo p e below s n0 Q kc ks (T.setTop (mkF m pc Ls (.int y :: .int x :: St))) := by
  subst hp
  exact OGo.st (fun _ k => XS.iadd X.here K.hx rfl (hb K.hby hd) rfl k) hr
theorem o_isub (X : Stand p l e R s m args below meth c T locs cells slots) (K : OCx p s m meth c Z own nm bytes maxL ret) {x y : Int32} (hd : decode bytes pc = .ok (.isub, 1)) (pc' : Nat) (hp : pc + 1 = pc') (hr : OGo p e below s n0 Q kc ks (T.setTop (mkF m pc' Ls (.int (x - y) :: St)))) : OGo p e below s n0 Q kc ks (T.setTop (mkF m pc Ls (.int y :: .int x :: St))) := by
  subst hp
  exact OGo.st (fun _ k => XS.isub X.here K.hx rfl (hb K.hby hd) rfl k) hr
theorem o_imul (X : Stand p l e R s m args below meth c T locs cells slots) (K : OCx p s m meth c Z own nm bytes maxL ret) {x y : Int32} (hd : decode bytes pc = .ok (.imul, 1)) (pc' : Nat) (hp : pc + 1 = pc') (hr : OGo p e below s n0 Q kc ks (T.setTop (mkF m pc' Ls (.int (x * y) :: St)))) : OGo p e below s n0 Q kc ks (T.setTop (mkF m pc Ls (.int y :: .int x :: St))) := by
  subst hp
  exact OGo.st (fun _ k => XS.imul X.here K.hx rfl (hb K.hby hd) rfl k) hr
theorem o_iand (X : Stand p l e R s m args below meth c T locs cells slots) (K : OCx p s m meth c Z own nm bytes maxL ret) {x y : Int32} (hd : decode bytes pc = .ok (.iand, 1)) (pc' : Nat) (hp : pc + 1 = pc') (hr : OGo p e below s n0 Q kc ks (T.setTop (mkF m pc' Ls (.int (x &&& y) :: St)))) : OGo p e below s n0 Q kc ks (T.setTop (mkF m pc Ls (.int y :: .int x :: St))) := by
  subst hp
  exact OGo.st (fun _ k => XS.iand X.here K.hx rfl (hb K.hby hd) rfl k) hr
theorem o_ior (X : Stand p l e R s m args below meth c T locs cells slots) (K : OCx p s m meth c Z own nm bytes maxL ret) {x y : Int32} (hd : decode bytes pc = .ok (.ior, 1)) (pc' : Nat) (hp : pc + 1 = pc') (hr : OGo p e below s n0 Q kc ks (T.setTop (mkF m pc' Ls (.int (x ||| y) :: St)))) : OGo p e below s n0 Q kc ks (T.setTop (mkF m pc Ls (.int y :: .int x :: St))) := by
  subst hp
  exact OGo.st (fun _ k => XS.ior X.here K.hx rfl (hb K.hby hd) rfl k) hr
theorem o_ixor (X : Stand p l e R s m args below meth c T locs cells slots) (K : OCx p s m meth c Z own nm bytes maxL ret) {x y : Int32} (hd : decode bytes pc = .ok (.ixor, 1)) (pc' : Nat) (hp : pc + 1 = pc') (hr : OGo p e below s n0 Q kc ks (T.setTop (mkF m pc' Ls (.int (x ^^^ y) :: St)))) : OGo p e below s n0 Q kc ks (T.setTop (mkF m pc Ls (.int y :: .int x :: St))) := by
  subst hp
  exact OGo.st (fun _ k => XS.ixor X.here K.hx rfl (hb K.hby hd) rfl k) hr
theorem o_ishl (X : Stand p l e R s m args below meth c T locs cells slots) (K : OCx p s m meth c Z own nm bytes maxL ret) {x y : Int32} (hd : decode bytes pc = .ok (.ishl, 1)) (pc' : Nat) (hp : pc + 1 = pc') (hr : OGo p e below s n0 Q kc ks (T.setTop (mkF m pc' Ls (.int (x <<< (y &&& 31)) :: St)))) : OGo p e below s n0 Q kc ks (T.setTop (mkF m pc Ls (.int y :: .int x :: St))) := by
  subst hp
  exact OGo.st (fun _ k => XS.ishl X.here K.hx rfl (hb K.hby hd) rfl k) hr
theorem o_ishr (X : Stand p l e R s m args below meth c T locs cells slots) (K : OCx p s m meth c Z own nm bytes maxL ret) {x y : Int32} (hd : decode bytes pc = .ok (.ishr, 1)) (pc' : Nat) (hp : pc + 1 = pc') (hr : OGo p e below s n0 Q kc ks (T.setTop (mkF m pc' Ls (.int (x >>> (y &&& 31)) :: St)))) : OGo p e below s n0 Q kc ks (T.setTop (mkF m pc Ls (.int y :: .int x :: St))) := by
  subst hp
  exact OGo.st (fun _ k => XS.ishr X.here K.hx rfl (hb K.hby hd) rfl k) hr
theorem o_iushr (X : Stand p l e R s m args below meth c T locs cells slots) (K : OCx p s m meth c Z own nm bytes maxL ret) {x y : Int32} (hd : decode bytes pc = .ok (.iushr, 1)) (pc' : Nat) (hp : pc + 1 = pc') (hr : OGo p e below s n0 Q kc ks (T.setTop (mkF m pc' Ls (.int ((x.toUInt32 >>> (y &&& 31).toUInt32).toInt32) :: St)))) : OGo p e below s n0 Q kc ks (T.setTop (mkF m pc Ls (.int y :: .int x :: St))) := by
  subst hp
  exact OGo.st (fun _ k => XS.iushr X.here K.hx rfl (hb K.hby hd) rfl k) hr
theorem o_ladd (X : Stand p l e R s m args below meth c T locs cells slots) (K : OCx p s m meth c Z own nm bytes maxL ret) {x y : Int64} (hd : decode bytes pc = .ok (.ladd, 1)) (pc' : Nat) (hp : pc + 1 = pc') (hr : OGo p e below s n0 Q kc ks (T.setTop (mkF m pc' Ls (.long (x + y) :: St)))) : OGo p e below s n0 Q kc ks (T.setTop (mkF m pc Ls (.long y :: .long x :: St))) := by
  subst hp
  exact OGo.st (fun _ k => XS.ladd X.here K.hx rfl (hb K.hby hd) rfl k) hr
theorem o_lsub (X : Stand p l e R s m args below meth c T locs cells slots) (K : OCx p s m meth c Z own nm bytes maxL ret) {x y : Int64} (hd : decode bytes pc = .ok (.lsub, 1)) (pc' : Nat) (hp : pc + 1 = pc') (hr : OGo p e below s n0 Q kc ks (T.setTop (mkF m pc' Ls (.long (x - y) :: St)))) : OGo p e below s n0 Q kc ks (T.setTop (mkF m pc Ls (.long y :: .long x :: St))) := by
  subst hp
  exact OGo.st (fun _ k => XS.lsub X.here K.hx rfl (hb K.hby hd) rfl k) hr
theorem o_lmul (X : Stand p l e R s m args below meth c T locs cells slots) (K : OCx p s m meth c Z own nm bytes maxL ret) {x y : Int64} (hd : decode bytes pc = .ok (.lmul, 1)) (pc' : Nat) (hp : pc + 1 = pc') (hr : OGo p e below s n0 Q kc ks (T.setTop (mkF m pc' Ls (.long (x * y) :: St)))) : OGo p e below s n0 Q kc ks (T.setTop (mkF m pc Ls (.long y :: .long x :: St))) := by
  subst hp
  exact OGo.st (fun _ k => XS.lmul X.here K.hx rfl (hb K.hby hd) rfl k) hr
theorem o_land (X : Stand p l e R s m args below meth c T locs cells slots) (K : OCx p s m meth c Z own nm bytes maxL ret) {x y : Int64} (hd : decode bytes pc = .ok (.land, 1)) (pc' : Nat) (hp : pc + 1 = pc') (hr : OGo p e below s n0 Q kc ks (T.setTop (mkF m pc' Ls (.long (x &&& y) :: St)))) : OGo p e below s n0 Q kc ks (T.setTop (mkF m pc Ls (.long y :: .long x :: St))) := by
  subst hp
  exact OGo.st (fun _ k => XS.land X.here K.hx rfl (hb K.hby hd) rfl k) hr
theorem o_lor (X : Stand p l e R s m args below meth c T locs cells slots) (K : OCx p s m meth c Z own nm bytes maxL ret) {x y : Int64} (hd : decode bytes pc = .ok (.lor, 1)) (pc' : Nat) (hp : pc + 1 = pc') (hr : OGo p e below s n0 Q kc ks (T.setTop (mkF m pc' Ls (.long (x ||| y) :: St)))) : OGo p e below s n0 Q kc ks (T.setTop (mkF m pc Ls (.long y :: .long x :: St))) := by
  subst hp
  exact OGo.st (fun _ k => XS.lor X.here K.hx rfl (hb K.hby hd) rfl k) hr
theorem o_lxor (X : Stand p l e R s m args below meth c T locs cells slots) (K : OCx p s m meth c Z own nm bytes maxL ret) {x y : Int64} (hd : decode bytes pc = .ok (.lxor, 1)) (pc' : Nat) (hp : pc + 1 = pc') (hr : OGo p e below s n0 Q kc ks (T.setTop (mkF m pc' Ls (.long (x ^^^ y) :: St)))) : OGo p e below s n0 Q kc ks (T.setTop (mkF m pc Ls (.long y :: .long x :: St))) := by
  subst hp
  exact OGo.st (fun _ k => XS.lxor X.here K.hx rfl (hb K.hby hd) rfl k) hr
theorem o_lshl (X : Stand p l e R s m args below meth c T locs cells slots) (K : OCx p s m meth c Z own nm bytes maxL ret) {x : Int64} {y : Int32} (hd : decode bytes pc = .ok (.lshl, 1)) (pc' : Nat) (hp : pc + 1 = pc') (hr : OGo p e below s n0 Q kc ks (T.setTop (mkF m pc' Ls (.long (x <<< (y &&& 0x3f).toInt64) :: St)))) : OGo p e below s n0 Q kc ks (T.setTop (mkF m pc Ls (.int y :: .long x :: St))) := by
  subst hp
  exact OGo.st (fun _ k => XS.lshl X.here K.hx rfl (hb K.hby hd) rfl k) hr
theorem o_lshr (X : Stand p l e R s m args below meth c T locs cells slots) (K : OCx p s m meth c Z own nm bytes maxL ret) {x : Int64} {y : Int32} (hd : decode bytes pc = .ok (.lshr, 1)) (pc' : Nat) (hp : pc + 1 = pc') (hr : OGo p e below s n0 Q kc ks (T.setTop (mkF m pc' Ls (.long (x >>> (y &&& 0x3f).toInt64) :: St)))) : OGo p e below s n0 Q kc ks (T.setTop (mkF m pc Ls (.int y :: .long x :: St))) := by
  subst hp
  exact OGo.st (fun _ k => XS.lshr X.here K.hx rfl (hb K.hby hd) rfl k) hr
theorem o_lushr (X : Stand p l e R s m args below meth c T locs cells slots) (K : OCx p s m meth c Z own nm bytes maxL ret) {x : Int64} {y : Int32} (hd : decode bytes pc = .ok (.lushr, 1)) (pc' : Nat) (hp : pc + 1 = pc') (hr : OGo p e below s n0 Q kc ks (T.setTop (mkF m pc' Ls (.long ((x.toUInt64 >>> (y &&& 0x3f).toInt64.toUInt64).toInt64) :: St)))) : OGo p e below s n0 Q kc ks (T.setTop (mkF m pc Ls (.int y :: .long x :: St))) := by
  subst hp
  exact OGo.st (fun _ k => XS.lushr X.here K.hx rfl (hb K.hby hd) rfl k) hr
theorem o_ldiv (X : Stand p l e R s m args below meth c T locs cells slots) (K : OCx p s m meth c Z own nm bytes maxL ret) {x y : Int64} (hd : decode bytes pc = .ok (.ldiv, 1)) (pc' : Nat) (hp : pc + 1 = pc') (hy : y ≠ 0) (hr : OGo p e below s n0 Q kc ks (T.setTop (mkF m pc' Ls (.long (x / y) :: St)))) : OGo p e below s n0 Q kc ks (T.setTop (mkF m pc Ls (.long y :: .long x :: St))) := by
  subst hp
  exact OGo.st (fun _ k => XS.ldiv X.here K.hx rfl (hb K.hby hd) rfl hy k) hr
theorem o_idiv (X : Stand p l e R s m args below meth c T locs cells slots) (K : OCx p s m meth c Z own nm bytes maxL ret) {x y : Int32} (hd : decode bytes pc = .ok (.idiv, 1)) (pc' : Nat) (hp : pc + 1 = pc') (hy : y ≠ 0) (hr : OGo p e below s n0 Q kc ks (T.setTop (mkF m pc' Ls (.int (x / y) :: St)))) : OGo p e below s n0 Q kc ks (T.setTop (mkF m pc Ls (.int y :: .int x :: St))) := by
  subst hp
  exact OGo.st (fun _ k => XS.idiv X.here K.hx rfl (hb K.hby hd) rfl hy k) hr
theorem o_irem (X : Stand p l e R s m args below meth c T locs cells slots) (K : OCx p s m meth c Z own nm bytes maxL ret) {x y : Int32} (hd : decode bytes pc = .ok (.irem, 1)) (pc' : Nat) (hp : pc + 1 = pc') (hy : y ≠ 0) (hr : OGo p e below s n0 Q kc ks (T.setTop (mkF m pc' Ls (.int (x % y) :: St)))) : OGo p e below s n0 Q kc ks (T.setTop (mkF m pc Ls (.int y :: .int x :: St))) := by
  subst hp
  exact OGo.st (fun _ k => iremM X K.hx rfl (hb K.hby hd) rfl hy k) hr
theorem o_ineg (X : Stand p l e R s m args below meth c T locs cells slots) (K : OCx p s m meth c Z own nm bytes maxL ret) {x : Int32} (hd : decode bytes pc = .ok (.ineg, 1)) (pc' : Nat) (hp : pc + 1 = pc') (hr : OGo p e below s n0 Q kc ks (T.setTop (mkF m pc' Ls (.int (-x) :: St)))) : OGo p e below s n0 Q kc ks (T.setTop (mkF m pc Ls (.int x :: St))) := by
  subst hp
  exact OGo.st (fun _ k => XS.ineg X.here K.hx rfl (hb K.hby hd) rfl k) hr
theorem o_lneg (X : Stand p l e R s m args below meth c T locs cells slots) (K : OCx p s m meth c Z own nm bytes maxL ret) {x : Int64} (hd : decode bytes pc = .ok (.lneg, 1)) (pc' : Nat) (hp : pc + 1 = pc') (hr : OGo p e below s n0 Q kc ks (T.setTop (mkF m pc' Ls (.long (-x) :: St)))) : OGo p e below s n0 Q kc ks (T.setTop (mkF m pc Ls (.long x :: St))) := by
  subst hp
  exact OGo.st (fun _ k => XS.lneg X.here K.hx rfl (hb K.hby hd) rfl k) hr
theorem o_i2b (X : Stand p l e R s m args below meth c T locs cells slots) (K : OCx p s m meth c Z own nm bytes maxL ret) {x : Int32} (hd : decode bytes pc = .ok (.i2b, 1)) (pc' : Nat) (hp : pc + 1 = pc') (hr : OGo p e below s n0 Q kc ks (T.setTop (mkF m pc' Ls (.int (x.toInt8.toInt32) :: St)))) : OGo p e below s n0 Q kc ks (T.setTop (mkF m pc Ls (.int x :: St))) := by
  subst hp
  exact OGo.st (fun _ k => XS.i2b X.here K.hx rfl (hb K.hby hd) rfl k) hr
theorem o_i2c (X : Stand p l e R s m args below meth c T locs cells slots) (K : OCx p s m meth c Z own nm bytes maxL ret) {x : Int32} (hd : decode bytes pc = .ok (.i2c, 1)) (pc' : Nat) (hp : pc + 1 = pc') (hr : OGo p e below s n0 Q kc ks (T.setTop (mkF m pc' Ls (.int (x.toUInt32.toUInt16.toUInt32.toInt32) :: St)))) : OGo p e below s n0 Q kc ks (T.setTop (mkF m pc Ls (.int x :: St))) := by
  subst hp
  exact OGo.st (fun _ k => XS.i2c X.here K.hx rfl (hb K.hby hd) rfl k) hr
theorem o_i2s (X : Stand p l e R s m args below meth c T locs cells slots) (K : OCx p s m meth c Z own nm bytes maxL ret) {x : Int32} (hd : decode bytes pc = .ok (.i2s, 1)) (pc' : Nat) (hp : pc + 1 = pc') (hr : OGo p e below s n0 Q kc ks (T.setTop (mkF m pc' Ls (.int (x.toInt16.toInt32) :: St)))) : OGo p e below s n0 Q kc ks (T.setTop (mkF m pc Ls (.int x :: St))) := by
  subst hp
  exact OGo.st (fun _ k => XS.i2s X.here K.hx rfl (hb K.hby hd) rfl k) hr
theorem o_i2l (X : Stand p l e R s m args below meth c T locs cells slots) (K : OCx p s m meth c Z own nm bytes maxL ret) {x : Int32} (hd : decode bytes pc = .ok (.i2l, 1)) (pc' : Nat) (hp : pc + 1 = pc') (hr : OGo p e below s n0 Q kc ks (T.setTop (mkF m pc' Ls (.long (x.toInt64) :: St)))) : OGo p e below s n0 Q kc ks (T.setTop (mkF m pc Ls (.int x :: St))) := by
  subst hp
  exact OGo.st (fun _ k => XS.i2l X.here K.hx rfl (hb K.hby hd) rfl k) hr
theorem o_l2i (X : Stand p l e R s m args below meth c T locs cells slots) (K : OCx p s m meth c Z own nm bytes maxL ret) {x : Int64} (hd : decode bytes pc = .ok (.l2i, 1)) (pc' : Nat) (hp : pc + 1 = pc') (hr : OGo p e below s n0 Q kc ks (T.setTop (mkF m pc' Ls (.int (x.toInt32) :: St)))) : OGo p e below s n0 Q kc ks (T.setTop (mkF m pc Ls (.long x :: St))) := by
  subst hp
  exact OGo.st (fun _ k => XS.l2i X.here K.hx rfl (hb K.hby hd) rfl k) hr
theorem o_lcmp (X : Stand p l e R s m args below meth c T locs cells slots) (K : OCx p s m meth c Z own nm bytes maxL ret) {x y : Int64} (hd : decode bytes pc = .ok (.lcmp, 1)) (pc' : Nat) (hp : pc + 1 = pc') (hr : OGo p e below s n0 Q kc ks (T.setTop (mkF m pc' Ls (.int (lcmpW x y) :: St)))) : OGo p e below s n0 Q kc ks (T.setTop (mkF m pc Ls (.long y :: .long x :: St))) := by
  subst hp
  exact OGo.st (fun _ k => XS.lcmp X.here K.hx rfl (hb K.hby hd) rfl k) hr
theorem o_dup (X : Stand p l e R s m args below meth c T locs cells slots) (K : OCx p s m meth c Z own nm bytes maxL ret) {x : Value} (hd : decode bytes pc = .ok (.dup, 1)) (pc' : Nat) (hp : pc + 1 = pc') (hc : x.category = 1) (hr : OGo p e below s n0 Q kc ks (T.setTop (mkF m pc' Ls (x :: x :: St)))) : OGo p e below s n0 Q kc ks (T.setTop (mkF m pc Ls (x :: St))) := by
  subst hp
  exact OGo.st (fun _ k => XS.dup X.here K.hx rfl (hb K.hby hd) rfl hc k) hr
theorem o_pop (X : Stand p l e R s m args below meth c T locs cells slots) (K : OCx p s m meth c Z own nm bytes maxL ret) {x : Value} (hd : decode bytes pc = .ok (.pop, 1)) (pc' : Nat) (hp : pc + 1 = pc') (hc : x.category = 1) (hr : OGo p e below s n0 Q kc ks (T.setTop (mkF m pc' Ls St))) : OGo p e below s n0 Q kc ks (T.setTop (mkF m pc Ls (x :: St))) := by
  subst hp
  exact OGo.st (fun _ k => XS.pop X.here K.hx rfl (hb K.hby hd) rfl hc k) hr
theorem o_dupX1 (X : Stand p l e R s m args below meth c T locs cells slots) (K : OCx p s m meth c Z own nm bytes maxL ret) {x y : Value} (hd : decode bytes pc = .ok (.dup_x1, 1)) (pc' : Nat) (hp : pc + 1 = pc') (hc : x.category = 1) (hc' : y.category = 1) (hr : OGo p e below s n0 Q kc ks (T.setTop (mkF m pc' Ls (x :: y :: x :: St)))) : OGo p e below s n0 Q kc ks (T.setTop (mkF m pc Ls (x :: y :: St))) := by
  subst hp
  exact OGo.st (fun _ k => XS.dupX1 X.here K.hx rfl (hb K.hby hd) rfl hc hc' k) hr
theorem o_dup2 (X : Stand p l e R s m args below meth c T locs cells slots) (K : OCx p s m meth c Z own nm bytes maxL ret) {x y : Value} (hd : decode bytes pc = .ok (.dup2, 1)) (pc' : Nat) (hp : pc + 1 = pc') (hc : x.category = 1) (hc' : y.category = 1) (hr : OGo p e below s n0 Q kc ks (T.setTop (mkF m pc' Ls (x :: y :: x :: y :: St)))) : OGo p e below s n0 Q kc ks (T.setTop (mkF m pc Ls (x :: y :: St))) := by
  subst hp
  exact OGo.st (fun _ k => Jvm.Free.XT.dup2 X.here K.hx rfl (hb K.hby hd) rfl hc hc' k) hr
theorem o_dup2L (X : Stand p l e R s m args below meth c T locs cells slots) (K : OCx p s m meth c Z own nm bytes maxL ret) {x : Int64} (hd : decode bytes pc = .ok (.dup2, 1)) (pc' : Nat) (hp : pc + 1 = pc') (hr : OGo p e below s n0 Q kc ks (T.setTop (mkF m pc' Ls (.long x :: .long x :: St)))) : OGo p e below s n0 Q kc ks (T.setTop (mkF m pc Ls (.long x :: St))) := by
  subst hp
  exact OGo.st (fun _ k => Jvm.Free.XT.dup2L X.here K.hx rfl (hb K.hby hd) rfl k) hr
theorem o_goto (X : Stand p l e R s m args below meth c T locs cells slots) (K : OCx p s m meth c Z own nm bytes maxL ret) {o : Int} (hd : decode bytes pc = .ok (.goto o, 3)) (pc' : Nat) (ho : 0 ≤ (pc : Int) + o) (hp : ((pc : Int) + o).toNat = pc') (hr : OGo p e below s n0 Q kc ks (T.setTop (mkF m pc' Ls St))) : OGo p e below s n0 Q kc ks (T.setTop (mkF m pc Ls St)) :=
  OGo.st (fun _ k => XS.goto X.here K.hx rfl (pc0 := pc) rfl (hb K.hby hd) ho hp k) hr
theorem o_icmp_lt_t (X : Stand p l e R s m args below meth c T locs cells slots) (K : OCx p s m meth c Z own nm bytes maxL ret) {x y : Int32} {o : Int} (hd : decode bytes pc = .ok (.if_icmp .lt o, 3)) (pt : Nat) (ho : 0 ≤ (pc : Int) + o) (hp : ((pc : Int) + o).toNat = pt) (q : x.toInt < y.toInt) (hr : OGo p e below s n0 Q kc ks (T.setTop (mkF m pt Ls St))) : OGo p e below s n0 Q kc ks (T.setTop (mkF m pc Ls (.int y :: .int x :: St))) :=
  OGo.st (fun _ k => XS.icmpYes X.here K.hx rfl (pc0 := pc) rfl (hb K.hby hd) rfl ((tlt (Int32.lt_iff_toInt_lt.mpr q)).1) ho hp k) hr
theorem o_icmp_lt_f (X : Stand p l e R s m args below meth c T locs cells slots) (K : OCx p s m meth c Z own nm bytes maxL ret) {x y : Int32} {o : Int} (hd : decode bytes pc = .ok (.if_icmp .lt o, 3)) (pc' : Nat) (hp : pc + 3 = pc') (q : y.toInt ≤ x.toInt) (hr : OGo p e below s n0 Q kc ks (T.setTop (mkF m pc' Ls St))) : OGo p e below s n0 Q kc ks (T.setTop (mkF m pc Ls (.int y :: .int x :: St))) := by
  subst hp
  exact OGo.st (fun _ k => XS.icmpNo X.here K.hx rfl (hb K.hby hd) rfl ((flt (fun r => Int.not_lt.mpr q (Int32.lt_iff_toInt_lt.mp r))).1) k) hr
theorem o_icmp_lt (X : Stand p l e R s m args below meth c T locs cells slots) (K : OCx p s m meth c Z own nm bytes maxL ret) {x y : Int32} {o : Int} (hd : decode bytes pc = .ok (.if_icmp .lt o, 3)) (pt : Nat) (ho : 0 ≤ (pc : Int) + o) (hp : ((pc : Int) + o).toNat = pt) (pc' : Nat) (hp' : pc + 3 = pc') (h1 : x.toInt < y.toInt → OGo p e below s n0 Q kc ks (T.setTop (mkF m pt Ls St))) (h2 : y.toInt ≤ x.toInt → OGo p e below s n0 Q kc ks (T.setTop (mkF m pc' Ls St))) : OGo p e below s n0 Q kc ks (T.setTop (mkF m pc Ls (.int y :: .int x :: St))) :=
  (Classical.em (x.toInt < y.toInt)).elim (fun q => o_icmp_lt_t X K hd pt ho hp q (h1 q)) (fun q => o_icmp_lt_f X K hd pc' hp' (Int.not_lt.mp q) (h2 (Int.not_lt.mp q)))
theorem o_if_lt_t (X : Stand p l e R s m args below meth c T locs cells slots) (K : OCx p s m meth c Z own nm bytes maxL ret) {x : Int32} {o : Int} (hd : decode bytes pc = .ok (.ifCond .lt o, 3)) (pt : Nat) (ho : 0 ≤ (pc : Int) + o) (hp : ((pc : Int) + o).toNat = pt) (q : x.toInt < 0) (hr : OGo p e below s n0 Q kc ks (T.setTop (mkF m pt Ls St))) : OGo p e below s n0 Q kc ks (T.setTop (mkF m pc Ls (.int x :: St))) :=
  OGo.st (fun _ k => XS.ifYes X.here K.hx rfl (pc0 := pc) rfl (hb K.hby hd) rfl ((if0 _ _).trans (tlt (Int32.lt_iff_toInt_lt.mpr (show x.toInt < (0 : Int32).toInt from q))).1) ho hp k) hr
theorem o_if_lt_f (X : Stand p l e R s m args below meth c T locs cells slots) (K : OCx p s m meth c Z own nm bytes maxL ret) {x : Int32} {o : Int} (hd : decode bytes pc = .ok (.ifCond .lt o, 3)) (pc' : Nat) (hp : pc + 3 = pc') (q : 0 ≤ x.toInt) (hr : OGo p e below s n0 Q kc ks (T.setTop (mkF m pc' Ls St))) : OGo p e below s n0 Q kc ks (T.setTop (mkF m pc Ls (.int x :: St))) := by
  subst hp
  exact OGo.st (fun _ k => XS.ifNo X.here K.hx rfl (hb K.hby hd) rfl ((if0 _ _).trans (flt (fun r => Int.not_lt.mpr (show (0 : Int32).toInt ≤ x.toInt from q) (Int32.lt_iff_toInt_lt.mp r))).1) k) hr
theorem o_if_lt (X : Stand p l e R s m args below meth c T locs cells slots) (K : OCx p s m meth c Z own nm bytes maxL ret) {x : Int32} {o : Int} (hd : decode bytes pc = .ok (.ifCond .lt o, 3)) (pt : Nat) (ho : 0 ≤ (pc : Int) + o) (hp : ((pc : Int) + o).toNat = pt) (pc' : Nat) (hp' : pc + 3 = pc') (h1 : x.toInt < 0 → OGo p e below s n0 Q kc ks (T.setTop (mkF m pt Ls St))) (h2 : 0 ≤ x.toInt → OGo p e below s n0 Q kc ks (T.setTop (mkF m pc' Ls St))) : OGo p e below s n0 Q kc ks (T.setTop (mkF m pc Ls (.int x :: St))) :=
  (Classical.em (x.toInt < 0)).elim (fun q => o_if_lt_t X K hd pt ho hp q (h1 q)) (fun q => o_if_lt_f X K hd pc' hp' (Int.not_lt.mp q) (h2 (Int.not_lt.mp q)))
theorem o_icmp_ge_t (X : Stand p l e R s m args below meth c T locs cells slots) (K : OCx p s m meth c Z own nm bytes maxL ret) {x y : Int32} {o : Int} (hd : decode bytes pc = .ok (.if_icmp .ge o, 3)) (pt : Nat) (ho : 0 ≤ (pc : Int) + o) (hp : ((pc : Int) + o).toNat = pt) (q : y.toInt ≤ x.toInt) (hr : OGo p e below s n0 Q kc ks (T.setTop (mkF m pt Ls St))) : OGo p e below s n0 Q kc ks (T.setTop (mkF m pc Ls (.int y :: .int x :: St))) :=
  OGo.st (fun _ k => XS.icmpYes X.here K.hx rfl (pc0 := pc) rfl (hb K.hby hd) rfl ((flt (fun r => Int.not_lt.mpr q (Int32.lt_iff_toInt_lt.mp r))).2.1) ho hp k) hr
theorem o_icmp_ge_f (X : Stand p l e R s m args below meth c T locs cells slots) (K : OCx p s m meth c Z own nm bytes maxL ret) {x y : Int32} {o : Int} (hd : decode bytes pc = .ok (.if_icmp .ge o, 3)) (pc' : Nat) (hp : pc + 3 = pc') (q : x.toInt < y.toInt) (hr : OGo p e below s n0 Q kc ks (T.setTop (mkF m pc' Ls St))) : OGo p e below s n0 Q kc ks (T.setTop (mkF m pc Ls (.int y :: .int x :: St))) := by
  subst hp
  exact OGo.st (fun _ k => XS.icmpNo X.here K.hx rfl (hb K.hby hd) rfl ((tlt (Int32.lt_iff_toInt_lt.mpr q)).2.1) k) hr
theorem o_icmp_ge (X : Stand p l e R s m args below meth c T locs cells slots) (K : OCx p s m meth c Z own nm bytes maxL ret) {x y : Int32} {o : Int} (hd : decode bytes pc = .ok (.if_icmp .ge o, 3)) (pt : Nat) (ho : 0 ≤ (pc : Int) + o) (hp : ((pc : Int) + o).toNat = pt) (pc' : Nat) (hp' : pc + 3 = pc') (h1 : y.toInt ≤ x.toInt → OGo p e below s n0 Q kc ks (T.setTop (mkF m pt Ls St))) (h2 : x.toInt < y.toInt → OGo p e below s n0 Q kc ks (T.setTop (mkF m pc' Ls St))) : OGo p e below s n0 Q kc ks (T.setTop (mkF m pc Ls (.int y :: .int x :: St))) :=
  (Classical.em (y.toInt ≤ x.toInt)).elim (fun q => o_icmp_ge_t X K hd pt ho hp q (h1 q)) (fun q => o_icmp_ge_f X K hd pc' hp' (Int.not_le.mp q) (h2 (Int.not_le.mp q)))
theorem o_if_ge_t (X : Stand p l e R s m args below meth c T locs cells slots) (K : OCx p s m meth c Z own nm bytes maxL ret) {x : Int32} {o : Int} (hd : decode bytes pc = .ok (.ifCond .ge o, 3)) (pt : Nat) (ho : 0 ≤ (pc : Int) + o) (hp : ((pc : Int) + o).toNat = pt) (q : 0 ≤ x.toInt) (hr : OGo p e below s n0 Q kc ks (T.setTop (mkF m pt Ls St))) : OGo p e below s n0 Q kc ks (T.setTop (mkF m pc Ls (.int x :: St))) :=
  OGo.st (fun _ k => XS.ifYes X.here K.hx rfl (pc0 := pc) rfl (hb K.hby hd) rfl ((if0 _ _).trans (flt (fun r => Int.not_lt.mpr (show (0 : Int32).toInt ≤ x.toInt from q) (Int32.lt_iff_toInt_lt.mp r))).2.1) ho hp k) hr
theorem o_if_ge_f (X : Stand p l e R s m args below meth c T locs cells slots) (K : OCx p s m meth c Z own nm bytes maxL ret) {x : Int32} {o : Int} (hd : decode bytes pc = .ok (.ifCond .ge o, 3)) (pc' : Nat) (hp : pc + 3 = pc') (q : x.toInt < 0) (hr : OGo p e below s n0 Q kc ks (T.setTop (mkF m pc' Ls St))) : OGo p e below s n0 Q kc ks (T.setTop (mkF m pc Ls (.int x :: St))) := by
  subst hp
  exact OGo.st (fun _ k => XS.ifNo X.here K.hx rfl (hb K.hby hd) rfl ((if0 _ _).trans (tlt (Int32.lt_iff_toInt_lt.mpr (show x.toInt < (0 : Int32).toInt from q))).2.1) k) hr
theorem o_if_ge (X : Stand p l e R s m args below meth c T locs cells slots) (K : OCx p s m meth c Z own nm bytes maxL ret) {x : Int32} {o : Int} (hd : decode bytes pc = .ok (.ifCond .ge o, 3)) (pt : Nat) (ho : 0 ≤ (pc : Int) + o) (hp : ((pc : Int) + o).toNat = pt) (pc' : Nat) (hp' : pc + 3 = pc') (h1 : 0 ≤ x.toInt → OGo p e below s n0 Q kc ks (T.setTop (mkF m pt Ls St))) (h2 : x.toInt < 0 → OGo p e below s n0 Q kc ks (T.setTop (mkF m pc' Ls St))) : OGo p e below s n0 Q kc ks (T.setTop (mkF m pc Ls (.int x :: St))) :=
  (Classical.em (0 ≤ x.toInt)).elim (fun q => o_if_ge_t X K hd pt ho hp q (h1 q)) (fun q => o_if_ge_f X K hd pc' hp' (Int.not_le.mp q) (h2 (Int.not_le.mp q)))
theorem o_icmp_gt_t (X : Stand p l e R s m args below meth c T locs cells slots) (K : OCx p s m meth c Z own nm bytes maxL ret) {x y : Int32} {o : Int} (hd : decode bytes pc = .ok (.if_icmp .gt o, 3)) (pt : Nat) (ho : 0 ≤ (pc : Int) + o) (hp : ((pc : Int) + o).toNat = pt) (q : y.toInt < x.toInt) (hr : OGo p e below s n0 Q kc ks (T.setTop (mkF m pt Ls St))) : OGo p e below s n0 Q kc ks (T.setTop (mkF m pc Ls (.int y :: .int x :: St))) :=
  OGo.st (fun _ k => XS.icmpYes X.here K.hx rfl (pc0 := pc) rfl (hb K.hby hd) rfl ((tlt (Int32.lt_iff_toInt_lt.mpr q)).2.2.1) ho hp k) hr
theorem o_icmp_gt_f (X : Stand p l e R s m args below meth c T locs cells slots) (K : OCx p s m meth c Z own nm bytes maxL ret) {x y : Int32} {o : Int} (hd : decode bytes pc = .ok (.if_icmp .gt o, 3)) (pc' : Nat) (hp : pc + 3 = pc') (q : x.toInt ≤ y.toInt) (hr : OGo p e below s n0 Q kc ks (T.setTop (mkF m pc' Ls St))) : OGo p e below s n0 Q kc ks (T.setTop (mkF m pc Ls (.int y :: .int x :: St))) := by
  subst hp
  exact OGo.st (fun _ k => XS.icmpNo X.here K.hx rfl (hb K.hby hd) rfl ((flt (fun r => Int.not_lt.mpr q (Int32.lt_iff_toInt_lt.mp r))).2.2.1) k) hr
theorem o_icmp_gt (X : Stand p l e R s m args below meth c T locs cells slots) (K : OCx p s m meth c Z own nm bytes maxL ret) {x y : Int32} {o : Int} (hd : decode bytes pc = .ok (.if_icmp .gt o, 3)) (pt : Nat) (ho : 0 ≤ (pc : Int) + o) (hp : ((pc : Int) + o).toNat = pt) (pc' : Nat) (hp' : pc + 3 = pc') (h1 : y.toInt < x.toInt → OGo p e below s n0 Q kc ks (T.setTop (mkF m pt Ls St))) (h2 : x.toInt ≤ y.toInt → OGo p e below s n0 Q kc ks (T.setTop (mkF m pc' Ls St))) : OGo p e below s n0 Q kc ks (T.setTop (mkF m pc Ls (.int y :: .int x :: St))) :=
  (Classical.em (y.toInt < x.toInt)).elim (fun q => o_icmp_gt_t X K hd pt ho hp q (h1 q)) (fun q => o_icmp_gt_f X K hd pc' hp' (Int.not_lt.mp q) (h2 (Int.not_lt.mp q)))
theorem o_if_gt_t (X : Stand p l e R s m args below meth c T locs cells slots) (K : OCx p s m meth c Z own nm bytes maxL ret) {x : Int32} {o : Int} (hd : decode bytes pc = .ok (.ifCond .gt o, 3)) (pt : Nat) (ho : 0 ≤ (pc : Int) + o) (hp : ((pc : Int) + o).toNat = pt) (q : 0 < x.toInt) (hr : OGo p e below s n0 Q kc ks (T.setTop (mkF m pt Ls St))) : OGo p e below s n0 Q kc ks (T.setTop (mkF m pc Ls (.int x :: St))) :=
  OGo.st (fun _ k => XS.ifYes X.here K.hx rfl (pc0 := pc) rfl (hb K.hby hd) rfl ((if0 _ _).trans (tlt (Int32.lt_iff_toInt_lt.mpr (show (0 : Int32).toInt < x.toInt from q))).2.2.1) ho hp k) hr
theorem o_if_gt_f (X : Stand p l e R s m args below meth c T locs cells slots) (K : OCx p s m meth c Z own nm bytes maxL ret) {x : Int32} {o : Int} (hd : decode bytes pc = .ok (.ifCond .gt o, 3)) (pc' : Nat) (hp : pc + 3 = pc') (q : x.toInt ≤ 0) (hr : OGo p e below s n0 Q kc ks (T.setTop (mkF m pc' Ls St))) : OGo p e below s n0 Q kc ks (T.setTop (mkF m pc Ls (.int x :: St))) := by
  subst hp
  exact OGo.st (fun _ k => XS.ifNo X.here K.hx rfl (hb K.hby hd) rfl ((if0 _ _).trans (flt (fun r => Int.not_lt.mpr (show x.toInt ≤ (0 : Int32).toInt from q) (Int32.lt_iff_toInt_lt.mp r))).2.2.1) k) hr
theorem o_if_gt (X : Stand p l e R s m args below meth c T locs cells slots) (K : OCx p s m meth c Z own nm bytes maxL ret) {x : Int32} {o : Int} (hd : decode bytes pc = .ok (.ifCond .gt o, 3)) (pt : Nat) (ho : 0 ≤ (pc : Int) + o) (hp : ((pc : Int) + o).toNat = pt) (pc' : Nat) (hp' : pc + 3 = pc') (h1 : 0 < x.toInt → OGo p e below s n0 Q kc ks (T.setTop (mkF m pt Ls St))) (h2 : x.toInt ≤ 0 → OGo p e below s n0 Q kc ks (T.setTop (mkF m pc' Ls St))) : OGo p e below s n0 Q kc ks (T.setTop (mkF m pc Ls (.int x :: St))) :=
  (Classical.em (0 < x.toInt)).elim (fun q => o_if_gt_t X K hd pt ho hp q (h1 q)) (fun q => o_if_gt_f X K hd pc' hp' (Int.not_lt.mp q) (h2 (Int.not_lt.mp q)))
theorem o_icmp_le_t (X : Stand p l e R s m args below meth c T locs cells slots) (K : OCx p s m meth c Z own nm bytes maxL ret) {x y : Int32} {o : Int} (hd : decode bytes pc = .ok (.if_icmp .le o, 3)) (pt : Nat) (ho : 0 ≤ (pc : Int) + o) (hp : ((pc : Int) + o).toNat = pt) (q : x.toInt ≤ y.toInt) (hr : OGo p e below s n0 Q kc ks (T.setTop (mkF m pt Ls St))) : OGo p e below s n0 Q kc ks (T.setTop (mkF m pc Ls (.int y :: .int x :: St))) :=
  OGo.st (fun _ k => XS.icmpYes X.here K.hx rfl (pc0 := pc) rfl (hb K.hby hd) rfl ((flt (fun r => Int.not_lt.mpr q (Int32.lt_iff_toInt_lt.mp r))).2.2.2) ho hp k) hr
theorem o_icmp_le_f (X : Stand p l e R s m args below meth c T locs cells slots) (K : OCx p s m meth c Z own nm bytes maxL ret) {x y : Int32} {o : Int} (hd : decode bytes pc = .ok (.if_icmp .le o, 3)) (pc' : Nat) (hp : pc + 3 = pc') (q : y.toInt < x.toInt) (hr : OGo p e below s n0 Q kc ks (T.setTop (mkF m pc' Ls St))) : OGo p e below s n0 Q kc ks (T.setTop (mkF m pc Ls (.int y :: .int x :: St))) := by
  subst hp
  exact OGo.st (fun _ k => XS.icmpNo X.here K.hx rfl (hb K.hby hd) rfl ((tlt (Int32.lt_iff_toInt_lt.mpr q)).2.2.2) k) hr
theorem o_icmp_le (X : Stand p l e R s m args below meth c T locs cells slots) (K : OCx p s m meth c Z own nm bytes maxL ret) {x y : Int32} {o : Int} (hd : decode bytes pc = .ok (.if_icmp .le o, 3)) (pt : Nat) (ho : 0 ≤ (pc : Int) + o) (hp : ((pc : Int) + o).toNat = pt) (pc' : Nat) (hp' : pc + 3 = pc') (h1 : x.toInt ≤ y.toInt → OGo p e below s n0 Q kc ks (T.setTop (mkF m pt Ls St))) (h2 : y.toInt < x.toInt → OGo p e below s n0 Q kc ks (T.setTop (mkF m pc' Ls St))) : OGo p e below s n0 Q kc ks (T.setTop (mkF m pc Ls (.int y :: .int x :: St))) :=
  (Classical.em (x.toInt ≤ y.toInt)).elim (fun q => o_icmp_le_t X K hd pt ho hp q (h1 q)) (fun q => o_icmp_le_f X K hd pc' hp' (Int.not_le.mp q) (h2 (Int.not_le.mp q)))
theorem o_if_le_t (X : Stand p l e R s m args below meth c T locs cells slots) (K : OCx p s m meth c Z own nm bytes maxL ret) {x : Int32} {o : Int} (hd : decode bytes pc = .ok (.ifCond .le o, 3)) (pt : Nat) (ho : 0 ≤ (pc : Int) + o) (hp : ((pc : Int) + o).toNat = pt) (q : x.toInt ≤ 0) (hr : OGo p e below s n0 Q kc ks (T.setTop (mkF m pt Ls St))) : OGo p e below s n0 Q kc ks (T.setTop (mkF m pc Ls (.int x :: St))) :=
  OGo.st (fun _ k => XS.ifYes X.here K.hx rfl (pc0 := pc) rfl (hb K.hby hd) rfl ((if0 _ _).trans (flt (fun r => Int.not_lt.mpr (show x.toInt ≤ (0 : Int32).toInt from q) (Int32.lt_iff_toInt_lt.mp r))).2.2.2) ho hp k) hr
theorem o_if_le_f (X : Stand p l e R s m args below meth c T locs cells slots) (K : OCx p s m meth c Z own nm bytes maxL ret) {x : Int32} {o : Int} (hd : decode bytes pc = .ok (.ifCond .le o, 3)) (pc' : Nat) (hp : pc + 3 = pc') (q : 0 < x.toInt) (hr : OGo p e below s n0 Q kc ks (T.setTop (mkF m pc' Ls St))) : OGo p e below s n0 Q kc ks (T.setTop (mkF m pc Ls (.int x :: St))) := by
  subst hp
  exact OGo.st (fun _ k => XS.ifNo X.here K.hx rfl (hb K.hby hd) rfl ((if0 _ _).trans (tlt (Int32.lt_iff_toInt_lt.mpr (show (0 : Int32).toInt < x.toInt from q))).2.2.2) k) hr
theorem o_if_le (X : Stand p l e R s m args below meth c T locs cells slots) (K : OCx p s m meth c Z own nm bytes maxL ret) {x : Int32} {o : Int} (hd : decode bytes pc = .ok (.ifCond .le o, 3)) (pt : Nat) (ho : 0 ≤ (pc : Int) + o) (hp : ((pc : Int) + o).toNat = pt) (pc' : Nat) (hp' : pc + 3 = pc') (h1 : x.toInt ≤ 0 → OGo p e below s n0 Q kc ks (T.setTop (mkF m pt Ls St))) (h2 : 0 < x.toInt → OGo p e below s n0 Q kc ks (T.setTop (mkF m pc' Ls St))) : OGo p e below s n0 Q kc ks (T.setTop (mkF m pc Ls (.int x :: St))) :=
  (Classical.em (x.toInt ≤ 0)).elim (fun q => o_if_le_t X K hd pt ho hp q (h1 q)) (fun q => o_if_le_f X K hd pc' hp' (Int.not_le.mp q) (h2 (Int.not_le.mp q)))
theorem o_icmp_eq_t (X : Stand p l e R s m args below meth c T locs cells slots) (K : OCx p s m meth c Z own nm bytes maxL ret) {x y : Int32} {o : Int} (hd : decode bytes pc = .ok (.if_icmp .eq o, 3)) (pt : Nat) (ho : 0 ≤ (pc : Int) + o) (hp : ((pc : Int) + o).toNat = pt) (q : x = y) (hr : OGo p e below s n0 Q kc ks (T.setTop (mkF m pt Ls St))) : OGo p e below s n0 Q kc ks (T.setTop (mkF m pc Ls (.int y :: .int x :: St))) :=
  OGo.st (fun _ k => XS.icmpYes X.here K.hx rfl (pc0 := pc) rfl (hb K.hby hd) rfl ((teq q).1) ho hp k) hr
theorem o_icmp_eq_f (X : Stand p l e R s m args below meth c T locs cells slots) (K : OCx p s m meth c Z own nm bytes maxL ret) {x y : Int32} {o : Int} (hd : decode bytes pc = .ok (.if_icmp .eq o, 3)) (pc' : Nat) (hp : pc + 3 = pc') (q : ¬ x = y) (hr : OGo p e below s n0 Q kc ks (T.setTop (mkF m pc' Ls St))) : OGo p e below s n0 Q kc ks (T.setTop (mkF m pc Ls (.int y :: .int x :: St))) := by
  subst hp
  exact OGo.st (fun _ k => XS.icmpNo X.here K.hx rfl (hb K.hby hd) rfl ((feq q).1) k) hr
theorem o_icmp_eq (X : Stand p l e R s m args below meth c T locs cells slots) (K : OCx p s m meth c Z own nm bytes maxL ret) {x y : Int32} {o : Int} (hd : decode bytes pc = .ok (.if_icmp .eq o, 3)) (pt : Nat) (ho : 0 ≤ (pc : Int) + o) (hp : ((pc : Int) + o).toNat = pt) (pc' : Nat) (hp' : pc + 3 = pc') (h1 : x = y → OGo p e below s n0 Q kc ks (T.setTop (mkF m pt Ls St))) (h2 : ¬ x = y → OGo p e below s n0 Q kc ks (T.setTop (mkF m pc' Ls St))) : OGo p e below s n0 Q kc ks (T.setTop (mkF m pc Ls (.int y :: .int x :: St))) :=
  (Classical.em (x = y)).elim (fun q => o_icmp_eq_t X K hd pt ho hp q (h1 q)) (fun q => o_icmp_eq_f X K hd pc' hp' (id q) (h2 (id q)))
theorem o_if_eq_t (X : Stand p l e R s m args below meth c T locs cells slots) (K : OCx p s m meth c Z own nm bytes maxL ret) {x : Int32} {o : Int} (hd : decode bytes pc = .ok (.ifCond .eq o, 3)) (pt : Nat) (ho : 0 ≤ (pc : Int) + o) (hp : ((pc : Int) + o).toNat = pt) (q : x = 0) (hr : OGo p e below s n0 Q kc ks (T.setTop (mkF m pt Ls St))) : OGo p e below s n0 Q kc ks (T.setTop (mkF m pc Ls (.int x :: St))) :=
  OGo.st (fun _ k => XS.ifYes X.here K.hx rfl (pc0 := pc) rfl (hb K.hby hd) rfl ((if0 _ _).trans (teq (show x = (0 : Int32) from q)).1) ho hp k) hr
theorem o_if_eq_f (X : Stand p l e R s m args below meth c T locs cells slots) (K : OCx p s m meth c Z own nm bytes maxL ret) {x : Int32} {o : Int} (hd : decode bytes pc = .ok (.ifCond .eq o, 3)) (pc' : Nat) (hp : pc + 3 = pc') (q : ¬ x = 0) (hr : OGo p e below s n0 Q kc ks (T.setTop (mkF m pc' Ls St))) : OGo p e below s n0 Q kc ks (T.setTop (mkF m pc Ls (.int x :: St))) := by
  subst hp
  exact OGo.st (fun _ k => XS.ifNo X.here K.hx rfl (hb K.hby hd) rfl ((if0 _ _).trans (feq (show ¬ x = (0 : Int32) from q)).1) k) hr
theorem o_if_eq (X : Stand p l e R s m args below meth c T locs cells slots) (K : OCx p s m meth c Z own nm bytes maxL ret) {x : Int32} {o : Int} (hd : decode bytes pc = .ok (.ifCond .eq o, 3)) (pt : Nat) (ho : 0 ≤ (pc : Int) + o) (hp : ((pc : Int) + o).toNat = pt) (pc' : Nat) (hp' : pc + 3 = pc') (h1 : x = 0 → OGo p e below s n0 Q kc ks (T.setTop (mkF m pt Ls St))) (h2 : ¬ x = 0 → OGo p e below s n0 Q kc ks (T.setTop (mkF m pc' Ls St))) : OGo p e below s n0 Q kc ks (T.setTop (mkF m pc Ls (.int x :: St))) :=
  (Classical.em (x = 0)).elim (fun q => o_if_eq_t X K hd pt ho hp q (h1 q)) (fun q => o_if_eq_f X K hd pc' hp' (id q) (h2 (id q)))
theorem o_icmp_ne_t (X : Stand p l e R s m args below meth c T locs cells slots) (K : OCx p s m meth c Z own nm bytes maxL ret) {x y : Int32} {o : Int} (hd : decode bytes pc = .ok (.if_icmp .ne o, 3)) (pt : Nat) (ho : 0 ≤ (pc : Int) + o) (hp : ((pc : Int) + o).toNat = pt) (q : ¬ x = y) (hr : OGo p e below s n0 Q kc ks (T.setTop (mkF m pt Ls St))) : OGo p e below s n0 Q kc ks (T.setTop (mkF m pc Ls (.int y :: .int x :: St))) :=
  OGo.st (fun _ k => XS.icmpYes X.here K.hx rfl (pc0 := pc) rfl (hb K.hby hd) rfl ((feq q).2) ho hp k) hr
theorem o_icmp_ne_f (X : Stand p l e R s m args below meth c T locs cells slots) (K : OCx p s m meth c Z own nm bytes maxL ret) {x y : Int32} {o : Int} (hd : decode bytes pc = .ok (.if_icmp .ne o, 3)) (pc' : Nat) (hp : pc + 3 = pc') (q : x = y) (hr : OGo p e below s n0 Q kc ks (T.setTop (mkF m pc' Ls St))) : OGo p e below s n0 Q kc ks (T.setTop (mkF m pc Ls (.int y :: .int x :: St))) := by
  subst hp
  exact OGo.st (fun _ k => XS.icmpNo X.here K.hx rfl (hb K.hby hd) rfl ((teq q).2) k) hr
theorem o_icmp_ne (X : Stand p l e R s m args below meth c T locs cells slots) (K : OCx p s m meth c Z own nm bytes maxL ret) {x y : Int32} {o : Int} (hd : decode bytes pc = .ok (.if_icmp .ne o, 3)) (pt : Nat) (ho : 0 ≤ (pc : Int) + o) (hp : ((pc : Int) + o).toNat = pt) (pc' : Nat) (hp' : pc + 3 = pc') (h1 : ¬ x = y → OGo p e below s n0 Q kc ks (T.setTop (mkF m pt Ls St))) (h2 : x = y → OGo p e below s n0 Q kc ks (T.setTop (mkF m pc' Ls St))) : OGo p e below s n0 Q kc ks (T.setTop (mkF m pc Ls (.int y :: .int x :: St))) :=
  (Classical.em (¬ x = y)).elim (fun q => o_icmp_ne_t X K hd pt ho hp q (h1 q)) (fun q => o_icmp_ne_f X K hd pc' hp' (Classical.not_not.mp q) (h2 (Classical.not_not.mp q)))
theorem o_if_ne_t (X : Stand p l e R s m args below meth c T locs cells slots) (K : OCx p s m meth c Z own nm bytes maxL ret) {x : Int32} {o : Int} (hd : decode bytes pc = .ok (.ifCond .ne o, 3)) (pt : Nat) (ho : 0 ≤ (pc : Int) + o) (hp : ((pc : Int) + o).toNat = pt) (q : ¬ x = 0) (hr : OGo p e below s n0 Q kc ks (T.setTop (mkF m pt Ls St))) : OGo p e below s n0 Q kc ks (T.setTop (mkF m pc Ls (.int x :: St))) :=
  OGo.st (fun _ k => XS.ifYes X.here K.hx rfl (pc0 := pc) rfl (hb K.hby hd) rfl ((if0 _ _).trans (feq (show ¬ x = (0 : Int32) from q)).2) ho hp k) hr
theorem o_if_ne_f (X : Stand p l e R s m args below meth c T locs cells slots) (K : OCx p s m meth c Z own nm bytes maxL ret) {x : Int32} {o : Int} (hd : decode bytes pc = .ok (.ifCond .ne o, 3)) (pc' : Nat) (hp : pc + 3 = pc') (q : x = 0) (hr : OGo p e below s n0 Q kc ks (T.setTop (mkF m pc' Ls St))) : OGo p e below s n0 Q kc ks (T.setTop (mkF m pc Ls (.int x :: St))) := by
  subst hp
  exact OGo.st (fun _ k => XS.ifNo X.here K.hx rfl (hb K.hby hd) rfl ((if0 _ _).trans (teq (show x = (0 : Int32) from q)).2) k) hr
theorem o_if_ne (X : Stand p l e R s m args below meth c T locs cells slots) (K : OCx p s m meth c Z own nm bytes maxL ret) {x : Int32} {o : Int} (hd : decode bytes pc = .ok (.ifCond .ne o, 3)) (pt : Nat) (ho : 0 ≤ (pc : Int) + o) (hp : ((pc : Int) + o).toNat = pt) (pc' : Nat) (hp' : pc + 3 = pc') (h1 : ¬ x = 0 → OGo p e below s n0 Q kc ks (T.setTop (mkF m pt Ls St))) (h2 : x = 0 → OGo p e below s n0 Q kc ks (T.setTop (mkF m pc' Ls St))) : OGo p e below s n0 Q kc ks (T.setTop (mkF m pc Ls (.int x :: St))) :=
  (Classical.em (¬ x = 0)).elim (fun q => o_if_ne_t X K hd pt ho hp q (h1 q)) (fun q => o_if_ne_f X K hd pc' hp' (Classical.not_not.mp q) (h2 (Classical.not_not.mp q)))
theorem o_lw_lt {x y : Int64} : (lcmpW x y).toInt < 0 ↔ x.toInt < y.toInt := by
  have q := lw_lt x y
  rw [Int32.lt_iff_toInt_lt, Int64.lt_iff_toInt_lt] at q
  exact q
theorem o_lw_gt {x y : Int64} : 0 < (lcmpW x y).toInt ↔ y.toInt < x.toInt := by
  have q := lw_gt x y
  rw [Int32.lt_iff_toInt_lt, Int64.lt_iff_toInt_lt] at q
  exact q
theorem o_lw_le {x y : Int64} : (lcmpW x y).toInt ≤ 0 ↔ x.toInt ≤ y.toInt := by
  have q := @o_lw_gt x y
  omega
theorem o_lw_ge {x y : Int64} : 0 ≤ (lcmpW x y).toInt ↔ y.toInt ≤ x.toInt := by
  have q := @o_lw_lt x y
  omega
theorem o_lw_eq {x y : Int64} : lcmpW x y = 0 ↔ x = y := lw_eq x y
theorem o_ifnull_t (X : Stand p l e R s m args below meth c T locs cells slots) (K : OCx p s m meth c Z own nm bytes maxL ret) {o : Int} (hd : decode bytes pc = .ok (.ifnull o, 3)) (pt : Nat) (ho : 0 ≤ (pc : Int) + o) (hp : ((pc : Int) + o).toNat = pt) (hr : OGo p e below s n0 Q kc ks (T.setTop (mkF m pt Ls St))) : OGo p e below s n0 Q kc ks (T.setTop (mkF m pc Ls (.null :: St))) :=
  OGo.st (fun _ k => XS.ifnullYes X.here K.hx rfl (pc0 := pc) rfl (hb K.hby hd) rfl ho hp k) hr
theorem o_ifnull_f (X : Stand p l e R s m args below meth c T locs cells slots) (K : OCx p s m meth c Z own nm bytes maxL ret) {o : Int} {b : Addr} (hd : decode bytes pc = .ok (.ifnull o, 3)) (pc' : Nat) (hp : pc + 3 = pc') (hr : OGo p e below s n0 Q kc ks (T.setTop (mkF m pc' Ls St))) : OGo p e below s n0 Q kc ks (T.setTop (mkF m pc Ls (.ref b :: St))) := by
  subst hp
  exact OGo.st (fun _ k => XS.ifnullNo X.here K.hx rfl (hb K.hby hd) rfl k) hr
theorem o_ifnonnull_t (X : Stand p l e R s m args below meth c T locs cells slots) (K : OCx p s m meth c Z own nm bytes maxL ret) {o : Int} {b : Addr} (hd : decode bytes pc = .ok (.ifnonnull o, 3)) (pt : Nat) (ho : 0 ≤ (pc : Int) + o) (hp : ((pc : Int) + o).toNat = pt) (hr : OGo p e below s n0 Q kc ks (T.setTop (mkF m pt Ls St))) : OGo p e below s n0 Q kc ks (T.setTop (mkF m pc Ls (.ref b :: St))) :=
  OGo.st (fun _ k => XS.ifnonnullYes X.here K.hx rfl (pc0 := pc) rfl (hb K.hby hd) rfl ho hp k) hr
theorem o_ifnonnull_f (X : Stand p l e R s m args below meth c T locs cells slots) (K : OCx p s m meth c Z own nm bytes maxL ret) {o : Int} (hd : decode bytes pc = .ok (.ifnonnull o, 3)) (pc' : Nat) (hp : pc + 3 = pc') (hr : OGo p e below s n0 Q kc ks (T.setTop (mkF m pc' Ls St))) : OGo p e below s n0 Q kc ks (T.setTop (mkF m pc Ls (.null :: St))) := by
  subst hp
  exact OGo.st (fun _ k => XS.ifnonnullNo X.here K.hx rfl (hb K.hby hd) rfl k) hr
theorem o_acmp (X : Stand p l e R s m args below meth c T locs cells slots) (K : OCx p s m meth c Z own nm bytes maxL ret) {cd : ACond} {x y : Value} {o : Int} (hd : decode bytes pc = .ok (.if_acmp cd o, 3)) (pc' : Nat) (h1 : x.isRef = true) (h2 : y.isRef = true) (same : Bool) (hq : decide (x = y) = same) (ho : 0 ≤ (pc : Int) + o) (hp : pc' = if acV cd same = true then ((pc : Int) + o).toNat else pc + 3) (hr : OGo p e below s n0 Q kc ks (T.setTop (mkF m pc' Ls St))) : OGo p e below s n0 Q kc ks (T.setTop (mkF m pc Ls (y :: x :: St))) :=
  OGo.st (fun _ k => Jvm.RoadKit.acmp (g := mkF m pc Ls (y :: x :: St)) X K.hx rfl h1 h2 (pc0 := pc) rfl (hb K.hby hd) rfl hq ho hp k) hr
theorem o_leave (X : Stand p l e R s m args below meth c T locs cells slots) (hlk : meth.locks = false) {v : Option Value} (hv : meth.sig.returnType = none → v = none) {S : State} (hc : cells ≤ kc) (hs : slots ≤ ks) (N : Fr n0 locs) (hQ : Q v T.heap)
    (k : ∀ fs, (∀ (f : JFrame) (acts : List Action), f.method = m → f.locked = none → f.entered = [] → (doReturn e (T.setTop f) acts v).1 = T.setFrames fs) → Steps p.tables e below S (T.setFrames fs)) : OGo p e below s n0 Q kc ks S := by
  obtain ⟨fs, hr, hrun, hended, hW, hsame⟩ := X.leave (v := v) hv
  exact ⟨_, _, k fs hr, hrun, hended, v, locs, rfl, ⟨hQ, N⟩, ⟨v, rfl⟩, hW, hsame.mono hc hs⟩
theorem o_ireturn (X : Stand p l e R s m args below meth c T locs cells slots) (K : OCx p s m meth c Z own nm bytes maxL (some .int)) {z : Int32} (hd : decode bytes pc = .ok (.ireturn, 1)) (hc : cells ≤ kc) (hs : slots ≤ ks) (N : Fr n0 locs) (hQ : Q (some (.int z)) T.heap) : OGo p e below s n0 Q kc ks (T.setTop (mkF m pc Ls (.int z :: St))) :=
  o_leave X K.hlk (fun h => by rw [K.hret] at h; cases h) hc hs N hQ (fun fs hr => retI X K.hx K.hret (hb K.hby hd) hr)
theorem o_ireturnN {t : FieldType} (X : Stand p l e R s m args below meth c T locs cells slots) (K : OCx p s m meth c Z own nm bytes maxL (some t)) (ht : t = .boolean ∨ t = .byte ∨ t = .char ∨ t = .short) {z : Int32} (hd : decode bytes pc = .ok (.ireturn, 1)) (hc : cells ≤ kc) (hs : slots ≤ ks) (N : Fr n0 locs) (hQ : Q (some (.int (nar t z))) T.heap) : OGo p e below s n0 Q kc ks (T.setTop (mkF m pc Ls (.int z :: St))) :=
  o_leave X K.hlk (fun h => by rw [K.hret] at h; cases h) hc hs N hQ (fun fs hr => retN X K.hx K.hret ht (hb K.hby hd) hr)
theorem o_lreturn (X : Stand p l e R s m args below meth c T locs cells slots) (K : OCx p s m meth c Z own nm bytes maxL (some .long)) {z : Int64} (hd : decode bytes pc = .ok (.lreturn, 1)) (hc : cells ≤ kc) (hs : slots ≤ ks) (N : Fr n0 locs) (hQ : Q (some (.long z)) T.heap) : OGo p e below s n0 Q kc ks (T.setTop (mkF m pc Ls (.long z :: St))) :=
  o_leave X K.hlk (fun h => by rw [K.hret] at h; cases h) hc hs N hQ (fun fs hr => retOut X K.hx K.hret rfl (Or.inr (Or.inl ⟨rfl, rfl, z, rfl⟩)) (hb K.hby hd) hr)
theorem o_areturn {t : FieldType} (X : Stand p l e R s m args below meth c T locs cells slots) (K : OCx p s m meth c Z own nm bytes maxL (some t)) (ht : t.isReference = true) {z : Value} (hn : narrow t z = z) (hz : z.isRef = true) (hd : decode bytes pc = .ok (.areturn, 1)) (hc : cells ≤ kc) (hs : slots ≤ ks) (N : Fr n0 locs) (hQ : Q (some z) T.heap) : OGo p e below s n0 Q kc ks (T.setTop (mkF m pc Ls (z :: St))) :=
  o_leave X K.hlk (fun h => by rw [K.hret] at h; cases h) hc hs N hQ (fun fs hr => retOut X K.hx K.hret hn (Or.inr (Or.inr (Or.inr (Or.inr ⟨rfl, ht, hz⟩)))) (hb K.hby hd) hr)
theorem o_return (X : Stand p l e R s m args below meth c T locs cells slots) (K : OCx p s m meth c Z own nm bytes maxL none) (hd : decode bytes pc = .ok (.return_, 1)) (hc : cells ≤ kc) (hs : slots ≤ ks) (N : Fr n0 locs) (hQ : Q none T.heap) : OGo p e below s n0 Q kc ks (T.setTop (mkF m pc Ls [])) :=
  o_leave X K.hlk (fun _ => rfl) hc hs N hQ (fun fs hr => X.returnOut K.hx K.hret (hb K.hby hd) hr)
/-- an array: its kind, its length, what each place holds -/
def OAr (Z : State) (h : Heap) (a : Addr) (ty : FieldType) (n : Nat) (f : Nat → Value) : Prop := ∃ c : Cell, Arr Z h a c ty ∧ c.slots.size = n ∧ n < 2147483648 ∧ (∀ j, j < n → c.slots[j]? = some (f j)) ∧ ∀ j, j < n → fits ty (f j) = true
theorem OAr.lt {a : Addr} {ty : FieldType} {n : Nat} {f : Nat → Value} (A : OAr Z h a ty n f) : a < h.size := by obtain ⟨c, A, -⟩ := A; exact A.lt
theorem OAr.len {a : Addr} {ty : FieldType} {n : Nat} {f : Nat → Value} (A : OAr Z h a ty n f) : n < 2147483648 := by obtain ⟨c, -, -, A, -⟩ := A; exact A
theorem OAr.fit {a : Addr} {ty : FieldType} {n : Nat} {f : Nat → Value} (A : OAr Z h a ty n f) {j : Nat} (hj : j < n) : fits ty (f j) = true := by obtain ⟨c, -, -, -, -, A⟩ := A; exact A j hj
theorem OAr.ext {a : Addr} {ty : FieldType} {n : Nat} {f : Nat → Value} (A : OAr Z h a ty n f) (E : Ext h h') : OAr Z h' a ty n f := by obtain ⟨c, A, r⟩ := A; exact ⟨c, A.ext E, r⟩
theorem OAr.other {a b : Addr} {ty : FieldType} {n sl : Nat} {f : Nat → Value} {v : Value} (A : OAr Z h b ty n f) (W : Wr h h' a sl v) (q : b ≠ a) : OAr Z h' b ty n f := by obtain ⟨c, A, r⟩ := A; exact ⟨c, A.other W q, r⟩
theorem OAr.keep {a : Addr} {ty : FieldType} {n : Nat} {f : Nat → Value} {ws : List Addr} (A : OAr Z h a ty n f) (E : Keep h h' ws) (q : a ∉ ws) : OAr Z h' a ty n f := by obtain ⟨c, A, r⟩ := A; exact ⟨c, ⟨E.2.1 _ _ A.1 q, A.2⟩, r⟩
theorem OAr.congr {a : Addr} {ty : FieldType} {n : Nat} {f g : Nat → Value} (A : OAr Z h a ty n f) (q : ∀ j, j < n → f j = g j) : OAr Z h a ty n g := by
  obtain ⟨c, A, r1, r2, r3, r4⟩ := A
  exact ⟨c, A, r1, r2, fun j hj => by rw [← q j hj]; exact r3 j hj, fun j hj => by rw [← q j hj]; exact r4 j hj⟩
theorem OAr.same {a : Addr} {ty : FieldType} {n i : Nat} {f : Nat → Value} {v : Value} (A : OAr Z h a ty n f) (W : Wr h h' a i v) (hv : fits ty v = true) : OAr Z h' a ty n (fun q => if q = i then v else f q) := by
  obtain ⟨c, A, r1, r2, r3, r4⟩ := A
  refine ⟨_, A.same W, by rw [sz_set]; exact r1, r2, fun j hj => ?_, fun j hj => ?_⟩
  · by_cases e : j = i
    · subst e; simp [Cell.setSlot, r1, hj]
    · have e' : ¬ i = j := fun z => e z.symm
      simp [Cell.setSlot, e, e', r3 j hj]
  · by_cases e : j = i
    · simp [e, hv]
    · simp [e, r4 j hj]
theorem o_idx {j : Int32} {i n : Nat} {c : Cell} (hj : j.toInt = (i : Int)) (hi : i < n) (r1 : c.slots.size = n) : ¬ (j < 0 ∨ c.slots.size ≤ j.toNatClampNeg) ∧ j.toNatClampNeg = i := by
  have e : j.toNatClampNeg = i := by rw [← Int32.toNat_toInt, hj]; rfl
  refine ⟨?_, e⟩
  rw [e, r1, Int32.lt_iff_toInt_lt, hj]
  intro q
  rcases q with q | q
  · have : (0 : Int32).toInt = 0 := rfl
    omega
  · omega
theorem o_len {n : Nat} (h : n < 2147483648) : (n.toInt32).toInt = n := by
  have := len_toInt (n := n) (by omega)
  exact this
theorem o_arraylength (X : Stand p l e R s m args below meth c T locs cells slots) (K : OCx p s m meth c Z own nm bytes maxL ret) {a : Addr} {ty : FieldType} {n : Nat} {f : Nat → Value} (hd : decode bytes pc = .ok (.arraylength, 1)) (pc' : Nat) (hp : pc + 1 = pc') (eT : T.heap = h) (A : OAr Z h a ty n f) {v : Int32} (hv : v.toInt = n) (hr : OGo p e below s n0 Q kc ks (T.setTop (mkF m pc' Ls (.int v :: St)))) : OGo p e below s n0 Q kc ks (T.setTop (mkF m pc Ls (.ref a :: St))) := by
  subst hp
  obtain ⟨cl, A, r1, r2, -⟩ := A
  have e1 : cl.slots.size.toInt32 = v := by rw [← Int32.toInt_inj, hv, r1]; exact o_len r2
  refine OGo.st (fun t k => ?_) hr
  refine X.arraylength K.hx (g := mkF m pc Ls (.ref a :: St)) (by rw [eT]; exact A.1) (State.isArrayOf_alike K.hZ.alike A.2.1) rfl rfl (hb K.hby hd) t ?_
  rw [e1]
  exact k
theorem o_iaload (X : Stand p l e R s m args below meth c T locs cells slots) (K : OCx p s m meth c Z own nm bytes maxL ret) {a : Addr} {n i : Nat} {f : Nat → Value} {j : Int32} {v : Value} (hd : decode bytes pc = .ok (.iaload, 1)) (pc' : Nat) (hp : pc + 1 = pc') (eT : T.heap = h) (A : OAr Z h a .int n f) (hj : j.toInt = (i : Int)) (hi : i < n) (hv : f i = v) (hr : OGo p e below s n0 Q kc ks (T.setTop (mkF m pc' Ls (v :: St)))) : OGo p e below s n0 Q kc ks (T.setTop (mkF m pc Ls (.int j :: .ref a :: St))) := by
  subst hp
  obtain ⟨cl, A, r1, r2, r3, -⟩ := A
  obtain ⟨q1, q2⟩ := o_idx (c := cl) hj hi r1
  exact OGo.st (fun t k => X.iaload K.hx (g := mkF m pc Ls (.int j :: .ref a :: St)) (by rw [eT]; exact A.1) (State.isArrayOf_alike K.hZ.alike A.2.1) A.2.2 q1 (by rw [q2, r3 i hi, hv]) rfl rfl (hb K.hby hd) t k) hr
theorem o_laload (X : Stand p l e R s m args below meth c T locs cells slots) (K : OCx p s m meth c Z own nm bytes maxL ret) {a : Addr} {n i : Nat} {f : Nat → Value} {j : Int32} {v : Value} (hd : decode bytes pc = .ok (.laload, 1)) (pc' : Nat) (hp : pc + 1 = pc') (eT : T.heap = h) (A : OAr Z h a .long n f) (hj : j.toInt = (i : Int)) (hi : i < n) (hv : f i = v) (hr : OGo p e below s n0 Q kc ks (T.setTop (mkF m pc' Ls (v :: St)))) : OGo p e below s n0 Q kc ks (T.setTop (mkF m pc Ls (.int j :: .ref a :: St))) := by
  subst hp
  obtain ⟨cl, A, r1, r2, r3, -⟩ := A
  obtain ⟨q1, q2⟩ := o_idx (c := cl) hj hi r1
  exact OGo.st (fun t k => X.laload K.hx (g := mkF m pc Ls (.int j :: .ref a :: St)) (by rw [eT]; exact A.1) (State.isArrayOf_alike K.hZ.alike A.2.1) A.2.2 q1 (by rw [q2, r3 i hi, hv]) rfl rfl (hb K.hby hd) t k) hr
theorem o_caload (X : Stand p l e R s m args below meth c T locs cells slots) (K : OCx p s m meth c Z own nm bytes maxL ret) {a : Addr} {n i : Nat} {f : Nat → Value} {j : Int32} {v : Value} (hd : decode bytes pc = .ok (.caload, 1)) (pc' : Nat) (hp : pc + 1 = pc') (eT : T.heap = h) (A : OAr Z h a .char n f) (hj : j.toInt = (i : Int)) (hi : i < n) (hv : f i = v) (hr : OGo p e below s n0 Q kc ks (T.setTop (mkF m pc' Ls (v :: St)))) : OGo p e below s n0 Q kc ks (T.setTop (mkF m pc Ls (.int j :: .ref a :: St))) := by
  subst hp
  obtain ⟨cl, A, r1, r2, r3, -⟩ := A
  obtain ⟨q1, q2⟩ := o_idx (c := cl) hj hi r1
  exact OGo.st (fun t k => X.caload K.hx (g := mkF m pc Ls (.int j :: .ref a :: St)) (by rw [eT]; exact A.1) (State.isArrayOf_alike K.hZ.alike A.2.1) A.2.2 q1 (by rw [q2, r3 i hi, hv]) rfl rfl (hb K.hby hd) t k) hr
theorem o_saload (X : Stand p l e R s m args below meth c T locs cells slots) (K : OCx p s m meth c Z own nm bytes maxL ret) {a : Addr} {n i : Nat} {f : Nat → Value} {j : Int32} {v : Value} (hd : decode bytes pc = .ok (.saload, 1)) (pc' : Nat) (hp : pc + 1 = pc') (eT : T.heap = h) (A : OAr Z h a .short n f) (hj : j.toInt = (i : Int)) (hi : i < n) (hv : f i = v) (hr : OGo p e below s n0 Q kc ks (T.setTop (mkF m pc' Ls (v :: St)))) : OGo p e below s n0 Q kc ks (T.setTop (mkF m pc Ls (.int j :: .ref a :: St))) := by
  subst hp
  obtain ⟨cl, A, r1, r2, r3, -⟩ := A
  obtain ⟨q1, q2⟩ := o_idx (c := cl) hj hi r1
  exact OGo.st (fun t k => X.saload K.hx (g := mkF m pc Ls (.int j :: .ref a :: St)) (by rw [eT]; exact A.1) (State.isArrayOf_alike K.hZ.alike A.2.1) A.2.2 q1 (by rw [q2, r3 i hi, hv]) rfl rfl (hb K.hby hd) t k) hr
theorem o_baload (X : Stand p l e R s m args below meth c T locs cells slots) (K : OCx p s m meth c Z own nm bytes maxL ret) {a : Addr} {n i : Nat} {f : Nat → Value} {j : Int32} {v : Value} (hd : decode bytes pc = .ok (.baload, 1)) (pc' : Nat) (hp : pc + 1 = pc') (eT : T.heap = h) (A : OAr Z h a .byte n f) (hj : j.toInt = (i : Int)) (hi : i < n) (hv : f i = v) (hr : OGo p e below s n0 Q kc ks (T.setTop (mkF m pc' Ls (v :: St)))) : OGo p e below s n0 Q kc ks (T.setTop (mkF m pc Ls (.int j :: .ref a :: St))) := by
  subst hp
  obtain ⟨cl, A, r1, r2, r3, -⟩ := A
  obtain ⟨q1, q2⟩ := o_idx (c := cl) hj hi r1
  exact OGo.st (fun t k => X.baloadBytes K.hx (g := mkF m pc Ls (.int j :: .ref a :: St)) (by rw [eT]; exact A.1) (State.isArrayOf_alike K.hZ.alike A.2.1) A.2.2 q1 (by rw [q2, r3 i hi, hv]) rfl rfl (hb K.hby hd) t k) hr
theorem o_zaload (X : Stand p l e R s m args below meth c T locs cells slots) (K : OCx p s m meth c Z own nm bytes maxL ret) {a : Addr} {n i : Nat} {f : Nat → Value} {j : Int32} {v : Value} (hd : decode bytes pc = .ok (.baload, 1)) (pc' : Nat) (hp : pc + 1 = pc') (eT : T.heap = h) (A : OAr Z h a .boolean n f) (hj : j.toInt = (i : Int)) (hi : i < n) (hv : f i = v) (hr : OGo p e below s n0 Q kc ks (T.setTop (mkF m pc' Ls (v :: St)))) : OGo p e below s n0 Q kc ks (T.setTop (mkF m pc Ls (.int j :: .ref a :: St))) := by
  subst hp
  obtain ⟨cl, A, r1, r2, r3, -⟩ := A
  obtain ⟨q1, q2⟩ := o_idx (c := cl) hj hi r1
  exact OGo.st (fun t k => X.baloadBooleans K.hx (g := mkF m pc Ls (.int j :: .ref a :: St)) (by rw [eT]; exact A.1) (State.isArrayOf_alike K.hZ.alike A.2.1) A.2.2 q1 (by rw [q2, r3 i hi, hv]) rfl rfl (hb K.hby hd) t k) hr
theorem o_aaload (X : Stand p l e R s m args below meth c T locs cells slots) (K : OCx p s m meth c Z own nm bytes maxL ret) {a : Addr} {ty : FieldType} {n i : Nat} {f : Nat → Value} {j : Int32} {v : Value} (hd : decode bytes pc = .ok (.aaload, 1)) (pc' : Nat) (hp : pc + 1 = pc') (eT : T.heap = h) (A : OAr Z h a ty n f) (hty : ty.isReference = true) (hj : j.toInt = (i : Int)) (hi : i < n) (hv : f i = v) (hr : OGo p e below s n0 Q kc ks (T.setTop (mkF m pc' Ls (v :: St)))) : OGo p e below s n0 Q kc ks (T.setTop (mkF m pc Ls (.int j :: .ref a :: St))) := by
  subst hp
  obtain ⟨cl, A, r1, r2, r3, -⟩ := A
  obtain ⟨q1, q2⟩ := o_idx (c := cl) hj hi r1
  exact OGo.st (fun t k => X.aaload K.hx (g := mkF m pc Ls (.int j :: .ref a :: St)) (by rw [eT]; exact A.1) (State.isArrayOf_alike K.hZ.alike A.2.1) hty A.2.2 q1 (by rw [q2, r3 i hi, hv]) rfl rfl (hb K.hby hd) t k) hr
theorem o_bastore (X : Stand p l e R s m args below meth c T locs cells slots) (K : OCx p s m meth c Z own nm bytes maxL ret) {a : Addr} {n i : Nat} {f : Nat → Value} {j : Int32} {x x' : Int32} (hd : decode bytes pc = .ok (.bastore, 1)) (pc' : Nat) (hp : pc + 1 = pc') (eT : T.heap = h) (A : OAr Z h a .byte n f) (hj : j.toInt = (i : Int)) (hi : i < n) (hv : nar .byte x = x') (N : Fr n0 locs) (ge : n0 ≤ a)
    (hr : ∀ T' h' locs', Stand p l e R s m args below meth c T' locs' cells slots → T'.heap = h' → Wr h h' a i (.int x') → OAr Z h' a .byte n (fun q => if q = i then (.int x') else f q) → Fr n0 locs' → OGo p e below s n0 Q kc ks (T'.setTop (mkF m pc' Ls St))) : OGo p e below s n0 Q kc ks (T.setTop (mkF m pc Ls (.int x :: .int j :: .ref a :: St))) := by
  subst hp hv
  obtain ⟨cl, B, r1, r2, r3, -⟩ := id A
  obtain ⟨q1, q2⟩ := o_idx (c := cl) hj hi r1
  obtain ⟨T', h', X', e', W', st'⟩ := stB X K.hx K.hZ eT B q1 (g := mkF m pc Ls (.int x :: .int j :: .ref a :: St)) rfl rfl (hb K.hby hd)
  have N' := Fr.snoc X' N ge
  rw [q2] at W'
  exact OGo.st st' (hr T' h' _ X' e' W' (A.same W' (fits_nar_byte x)) N')
theorem o_castore (X : Stand p l e R s m args below meth c T locs cells slots) (K : OCx p s m meth c Z own nm bytes maxL ret) {a : Addr} {n i : Nat} {f : Nat → Value} {j : Int32} {x x' : Int32} (hd : decode bytes pc = .ok (.castore, 1)) (pc' : Nat) (hp : pc + 1 = pc') (eT : T.heap = h) (A : OAr Z h a .char n f) (hj : j.toInt = (i : Int)) (hi : i < n) (hv : nar .char x = x') (N : Fr n0 locs) (ge : n0 ≤ a)
    (hr : ∀ T' h' locs', Stand p l e R s m args below meth c T' locs' cells slots → T'.heap = h' → Wr h h' a i (.int x') → OAr Z h' a .char n (fun q => if q = i then (.int x') else f q) → Fr n0 locs' → OGo p e below s n0 Q kc ks (T'.setTop (mkF m pc' Ls St))) : OGo p e below s n0 Q kc ks (T.setTop (mkF m pc Ls (.int x :: .int j :: .ref a :: St))) := by
  subst hp hv
  obtain ⟨cl, B, r1, r2, r3, -⟩ := id A
  obtain ⟨q1, q2⟩ := o_idx (c := cl) hj hi r1
  obtain ⟨T', h', X', e', W', st'⟩ := stC X K.hx K.hZ eT B q1 (g := mkF m pc Ls (.int x :: .int j :: .ref a :: St)) rfl rfl (hb K.hby hd)
  have N' := Fr.snoc X' N ge
  rw [q2] at W'
  exact OGo.st st' (hr T' h' _ X' e' W' (A.same W' (fits_nar_char x)) N')
theorem o_sastore (X : Stand p l e R s m args below meth c T locs cells slots) (K : OCx p s m meth c Z own nm bytes maxL ret) {a : Addr} {n i : Nat} {f : Nat → Value} {j : Int32} {x x' : Int32} (hd : decode bytes pc = .ok (.sastore, 1)) (pc' : Nat) (hp : pc + 1 = pc') (eT : T.heap = h) (A : OAr Z h a .short n f) (hj : j.toInt = (i : Int)) (hi : i < n) (hv : nar .short x = x') (N : Fr n0 locs) (ge : n0 ≤ a)
    (hr : ∀ T' h' locs', Stand p l e R s m args below meth c T' locs' cells slots → T'.heap = h' → Wr h h' a i (.int x') → OAr Z h' a .short n (fun q => if q = i then (.int x') else f q) → Fr n0 locs' → OGo p e below s n0 Q kc ks (T'.setTop (mkF m pc' Ls St))) : OGo p e below s n0 Q kc ks (T.setTop (mkF m pc Ls (.int x :: .int j :: .ref a :: St))) := by
  subst hp hv
  obtain ⟨cl, B, r1, r2, r3, -⟩ := id A
  obtain ⟨q1, q2⟩ := o_idx (c := cl) hj hi r1
  obtain ⟨T', h', X', e', W', st'⟩ := stS X K.hx K.hZ eT B q1 (g := mkF m pc Ls (.int x :: .int j :: .ref a :: St)) rfl rfl (hb K.hby hd)
  have N' := Fr.snoc X' N ge
  rw [q2] at W'
  exact OGo.st st' (hr T' h' _ X' e' W' (A.same W' (fits_nar_short x)) N')
theorem o_zastore (X : Stand p l e R s m args below meth c T locs cells slots) (K : OCx p s m meth c Z own nm bytes maxL ret) {a : Addr} {n i : Nat} {f : Nat → Value} {j : Int32} {x x' : Int32} (hd : decode bytes pc = .ok (.bastore, 1)) (pc' : Nat) (hp : pc + 1 = pc') (eT : T.heap = h) (A : OAr Z h a .boolean n f) (hj : j.toInt = (i : Int)) (hi : i < n) (hv : nar .boolean x = x') (N : Fr n0 locs) (ge : n0 ≤ a)
    (hr : ∀ T' h' locs', Stand p l e R s m args below meth c T' locs' cells slots → T'.heap = h' → Wr h h' a i (.int x') → OAr Z h' a .boolean n (fun q => if q = i then (.int x') else f q) → Fr n0 locs' → OGo p e below s n0 Q kc ks (T'.setTop (mkF m pc' Ls St))) : OGo p e below s n0 Q kc ks (T.setTop (mkF m pc Ls (.int x :: .int j :: .ref a :: St))) := by
  subst hp hv
  obtain ⟨cl, B, r1, r2, r3, -⟩ := id A
  obtain ⟨q1, q2⟩ := o_idx (c := cl) hj hi r1
  obtain ⟨T', h', X', e', W', st'⟩ := stZ X K.hx K.hZ eT B q1 (g := mkF m pc Ls (.int x :: .int j :: .ref a :: St)) rfl rfl (hb K.hby hd)
  have N' := Fr.snoc X' N ge
  rw [q2] at W'
  exact OGo.st st' (hr T' h' _ X' e' W' (A.same W' (fits_nar_bool x)) N')
theorem o_iastore (X : Stand p l e R s m args below meth c T locs cells slots) (K : OCx p s m meth c Z own nm bytes maxL ret) {a : Addr} {n i : Nat} {f : Nat → Value} {j : Int32} {x x' : Int32} (hd : decode bytes pc = .ok (.iastore, 1)) (pc' : Nat) (hp : pc + 1 = pc') (eT : T.heap = h) (A : OAr Z h a .int n f) (hj : j.toInt = (i : Int)) (hi : i < n) (hv : x = x') (N : Fr n0 locs) (ge : n0 ≤ a)
    (hr : ∀ T' h' locs', Stand p l e R s m args below meth c T' locs' cells slots → T'.heap = h' → Wr h h' a i (.int x') → OAr Z h' a .int n (fun q => if q = i then (.int x') else f q) → Fr n0 locs' → OGo p e below s n0 Q kc ks (T'.setTop (mkF m pc' Ls St))) : OGo p e below s n0 Q kc ks (T.setTop (mkF m pc Ls (.int x :: .int j :: .ref a :: St))) := by
  subst hp hv
  obtain ⟨cl, B, r1, r2, r3, -⟩ := id A
  obtain ⟨q1, q2⟩ := o_idx (c := cl) hj hi r1
  obtain ⟨T', h', X', e', W', st'⟩ := stI X K.hx K.hZ eT B q1 (g := mkF m pc Ls (.int x :: .int j :: .ref a :: St)) rfl rfl (hb K.hby hd)
  have N' := Fr.snoc X' N ge
  rw [q2] at W'
  exact OGo.st st' (hr T' h' _ X' e' W' (A.same W' (rfl)) N')
theorem o_lastore (X : Stand p l e R s m args below meth c T locs cells slots) (K : OCx p s m meth c Z own nm bytes maxL ret) {a : Addr} {n i : Nat} {f : Nat → Value} {j : Int32} {x x' : Int64} (hd : decode bytes pc = .ok (.lastore, 1)) (pc' : Nat) (hp : pc + 1 = pc') (eT : T.heap = h) (A : OAr Z h a .long n f) (hj : j.toInt = (i : Int)) (hi : i < n) (hv : x = x') (N : Fr n0 locs) (ge : n0 ≤ a)
    (hr : ∀ T' h' locs', Stand p l e R s m args below meth c T' locs' cells slots → T'.heap = h' → Wr h h' a i (.long x') → OAr Z h' a .long n (fun q => if q = i then (.long x') else f q) → Fr n0 locs' → OGo p e below s n0 Q kc ks (T'.setTop (mkF m pc' Ls St))) : OGo p e below s n0 Q kc ks (T.setTop (mkF m pc Ls (.long x :: .int j :: .ref a :: St))) := by
  subst hp hv
  obtain ⟨cl, B, r1, r2, r3, -⟩ := id A
  obtain ⟨q1, q2⟩ := o_idx (c := cl) hj hi r1
  obtain ⟨T', h', X', e', W', st'⟩ := stJ X K.hx K.hZ eT B q1 (g := mkF m pc Ls (.long x :: .int j :: .ref a :: St)) rfl rfl (hb K.hby hd)
  have N' := Fr.snoc X' N ge
  rw [q2] at W'
  exact OGo.st st' (hr T' h' _ X' e' W' (A.same W' (rfl)) N')
theorem o_newarray (X : Stand p l e R s m args below meth c T locs cells slots) (K : OCx p s m meth c Z own nm bytes maxL ret) {aty : ArrayType} {z : Int32} {n : Nat} (hd : decode bytes pc = .ok (.newarray aty, 2)) (pc' : Nat) (hp : pc + 2 = pc') (w : (Jvm.Cond.arrayClass (newarray.typeOf aty)).before a0 Z = true) (eT : T.heap = h) (hz : z.toInt = (n : Int)) (cap : Nat) (hcap : n ≤ cap) (hb8 : cap * 8 ≤ 536870912) (hc : cells + 1 ≤ R.cells) (hl : slots + cap ≤ R.slots)
    (hdv : fits (newarray.typeOf aty) (defaultValue (newarray.typeOf aty)) = true)
    (hr : ∀ T' h' a, a = h.size → Stand p l e R s m args below meth c T' locs (cells + 1) (slots + cap) → T'.heap = h' → Ext h h' → OAr Z h' a (newarray.typeOf aty) n (fun _ => defaultValue (newarray.typeOf aty)) → OGo p e below s n0 Q kc ks (T'.setTop (mkF m pc' Ls (.ref a :: St)))) : OGo p e below s n0 Q kc ks (T.setTop (mkF m pc Ls (.int z :: St))) := by
  subst hp
  have e1 : z.toNatClampNeg = n := by rw [← Int32.toNat_toInt, hz]; rfl
  have hneg : ¬ z < 0 := by
    rw [Int32.lt_iff_toInt_lt, hz]
    have : (0 : Int32).toInt = 0 := rfl
    omega
  obtain ⟨T', h', cA, X', e', E', A', st'⟩ := newP X K.hx K.hZ w eT (g := mkF m pc Ls (.int z :: St)) rfl (hb K.hby hd) rfl hneg (cap := cap) (by omega) hb8 hc hl
  refine OGo.st st' (hr T' h' _ rfl X' e' E' ⟨_, A', (sz_new _ _ _).trans e1, ?_, fun j hj => ?_, fun j _ => hdv⟩)
  · have := (rng32 z).2
    omega
  · simp [newA, e1, hj]
theorem o_anewarray (X : Stand p l e R s m args below meth c T locs cells slots) (K : OCx p s m meth c Z own nm bytes maxL ret) {C : String} {index : Nat} {z : Int32} {n : Nat} (hd : decode bytes pc = .ok (.anewarray index, 3)) (pc' : Nat) (hp : pc + 3 = pc') (w1 : (Jvm.Cond.classLink own index C).before a0 Z = true) (w2 : (Jvm.Cond.arrayOver (.object C)).before a0 Z = true) (eT : T.heap = h) (hz : z.toInt = (n : Int)) (cap : Nat) (hcap : n ≤ cap) (hb8 : cap * 8 ≤ 536870912) (hc : cells + 1 ≤ R.cells) (hl : slots + cap ≤ R.slots)
    (hr : ∀ T' h' a, a = h.size → Stand p l e R s m args below meth c T' locs (cells + 1) (slots + cap) → T'.heap = h' → Ext h h' → OAr Z h' a (.object C) n (fun _ => .null) → (∃ cl : Cell, h'[a]? = some cl ∧ Ovr Z cl.cls C) → OGo p e below s n0 Q kc ks (T'.setTop (mkF m pc' Ls (.ref a :: St)))) : OGo p e below s n0 Q kc ks (T.setTop (mkF m pc Ls (.int z :: St))) := by
  subst hp
  have e1 : z.toNatClampNeg = n := by rw [← Int32.toNat_toInt, hz]; rfl
  have hneg : ¬ z < 0 := by
    rw [Int32.lt_iff_toInt_lt, hz]
    have : (0 : Int32).toInt = 0 := rfl
    omega
  obtain ⟨T', h', cA, X', e', E', A', O', st'⟩ := newR X K.hx K.hZ K.hown w1 w2 eT (g := mkF m pc Ls (.int z :: St)) rfl (hb K.hby hd) rfl hneg (cap := cap) (by omega) hb8 hc hl
  refine OGo.st st' (hr T' h' _ rfl X' e' E' ⟨_, A', (sz_new _ _ _).trans e1, ?_, fun j hj => ?_, fun j _ => rfl⟩ ⟨_, A'.1, O'⟩)
  · have := (rng32 z).2
    omega
  · simp [newA, e1, hj, defaultValue]
theorem o_new (X : Stand p l e R s m args below meth c T locs cells slots) (K : OCx p s m meth c Z own nm bytes maxL ret) {C : String} {index k : Nat} (hd : decode bytes pc = .ok (.new index, 3)) (pc' : Nat) (hp : pc + 3 = pc') (w : (Jvm.Cond.classLink own index C).before a0 Z = true) (wi : (Jvm.Cond.instantiable C k).before a0 Z = true) (wz : (Jvm.Cond.initialized C).before a0 Z = true) (eT : T.heap = h) (hc : cells + 1 ≤ R.cells) (hl : slots + k ≤ R.slots)
    (hr : ∀ T' h' a, a = h.size → Stand p l e R s m args below meth c T' locs (cells + 1) (slots + k) → T'.heap = h' → Ext h h' → Exa Z h' a C → (∀ {O nm d : String} {ty : FieldType}, Laid Z a0 C O nm d → parseFieldDescriptor d = some ty → Fld Z h' a O nm d (defaultValue ty)) → OGo p e below s n0 Q kc ks (T'.setTop (mkF m pc' Ls (.ref a :: St)))) : OGo p e below s n0 Q kc ks (T.setTop (mkF m pc Ls St)) := by
  subst hp
  obtain ⟨T', h', X', e', E', A', D', -, st'⟩ := newO X K.hx K.hZ K.hown w wi wz eT (g := mkF m pc Ls St) rfl (hb K.hby hd) hc hl
  exact OGo.st st' (hr T' h' _ rfl X' e' E' A' D')
theorem o_initO (X : Stand p l e R s m args below meth c T locs cells slots) (K : OCx p s m meth c Z own nm bytes maxL ret) {idx : Nat} {a : Addr} (hd : decode bytes pc = .ok (.invokespecial idx, 3)) (pc' : Nat) (hp : pc + 3 = pc') (w1 : (Jvm.Cond.methodLink own idx Lib.objectInit).before a0 Z = true) (w2 : (Jvm.Cond.instanceMethod Lib.objectInit).before a0 Z = true) (w3 : (Jvm.Cond.code Lib.objectInit ⟨#[0xb1]⟩ 1 none).before a0 Z = true) (eT : T.heap = h) (hsz : Ls.size = maxL)
    (hf : 1 ≤ R.frames) (W : Nat) (hW : (St.map fun v => v.category).sum ≤ W) (hl : W + 12 ≤ R.locals) (hr : ∀ T', Stand p l e R s m args below meth c T' locs cells slots → T'.heap = h → OGo p e below s n0 Q kc ks (T'.setTop (mkF m pc' Ls St))) : OGo p e below s n0 Q kc ks (T.setTop (mkF m pc Ls (.ref a :: St))) := by
  subst hp
  obtain ⟨T', X', e', st'⟩ := initO X K.hx K.hZ K.hown w1 w2 w3 eT (g := mkF m pc Ls (.ref a :: St)) rfl (by rw [K.hml]; exact hsz) rfl (hb K.hby hd) hf (W := W) (by show 2 * 0 + _ ≤ _; omega) hl
  exact OGo.st st' (hr T' X' e')
theorem o_getfield (X : Stand p l e R s m args below meth c T locs cells slots) (K : OCx p s m meth c Z own nm bytes maxL ret) {index : Nat} {R0 O n d host : String} {a : Addr} {v : Value} (hd : decode bytes pc = .ok (.getfield index, 3)) (pc' : Nat) (hp : pc + 3 = pc') (w : (Jvm.Cond.fieldLink own index R0 n d).before a0 Z = true ∨ (Jvm.Cond.fieldLinkNest own index R0 n d host).before a0 Z = true) (via : Via Z R0 O n d) (eT : T.heap = h) (F : Fld Z h a O n d v)
    (hr : ∀ T', Stand p l e R s m args below meth c T' locs cells slots → T'.heap = h → OGo p e below s n0 Q kc ks (T'.setTop (mkF m pc' Ls (v :: St)))) : OGo p e below s n0 Q kc ks (T.setTop (mkF m pc Ls (.ref a :: St))) := by
  subst hp
  obtain ⟨T', X', e', st'⟩ := getF X K.hx K.hZ K.hown w via eT F (g := mkF m pc Ls (.ref a :: St)) rfl rfl (hb K.hby hd)
  exact OGo.st st' (hr T' X' e')
theorem o_getstatic (X : Stand p l e R s m args below meth c T locs cells slots) (K : OCx p s m meth c Z own nm bytes maxL ret) {index : Nat} {R0 O n d host : String} {v : Value} (hd : decode bytes pc = .ok (.getstatic index, 3)) (pc' : Nat) (hp : pc + 3 = pc') (w : (Jvm.Cond.fieldLink own index R0 n d).before a0 Z = true ∨ (Jvm.Cond.fieldLinkNest own index R0 n d host).before a0 Z = true) (via : Via Z R0 O n d) (eT : T.heap = h) (F : Sta Z h O n d v)
    (hr : ∀ T', Stand p l e R s m args below meth c T' locs cells slots → T'.heap = h → OGo p e below s n0 Q kc ks (T'.setTop (mkF m pc' Ls (v :: St)))) : OGo p e below s n0 Q kc ks (T.setTop (mkF m pc Ls St)) := by
  subst hp
  obtain ⟨T', X', e', st'⟩ := getS2 X K.hx K.hZ K.hown w via eT F (g := mkF m pc Ls St) rfl (hb K.hby hd)
  exact OGo.st st' (hr T' X' e')
theorem o_putfield (X : Stand p l e R s m args below meth c T locs cells slots) (K : OCx p s m meth c Z own nm bytes maxL ret) {index kk : Nat} {R0 O n d host C : String} {a : Addr} {v old : Value} {ty : FieldType} (hd : decode bytes pc = .ok (.putfield index, 3)) (pc' : Nat) (hp : pc + 3 = pc') (w : (Jvm.Cond.fieldLink own index R0 n d).before a0 Z = true ∨ (Jvm.Cond.fieldLinkNest own index R0 n d host).before a0 Z = true) (via : Via Z R0 O n d) (eT : T.heap = h) (F : Fld Z h a O n d old) (E : Exa Z h a C)
    (L : (Jvm.Cond.lays C O n d).before a0 Z = true ∨ ((Jvm.Cond.laysFinal C O n d).before a0 Z = true ∧ own = O ∧ nm = "<init>")) (wi : (Jvm.Cond.instantiable C kk).before a0 Z = true) (hty : parseFieldDescriptor d = some ty) (hn : narrow ty v = v) (hf : fits ty v = true) (N : Fr n0 locs) (ge : n0 ≤ a)
    (hr : ∀ T' h' locs', Stand p l e R s m args below meth c T' locs' cells slots → T'.heap = h' → Wr h h' a (Jvm.RoadKit.slotOf Z O n d) v → Fr n0 locs' → OGo p e below s n0 Q kc ks (T'.setTop (mkF m pc' Ls St))) : OGo p e below s n0 Q kc ks (T.setTop (mkF m pc Ls (v :: .ref a :: St))) := by
  subst hp
  obtain ⟨T', h', X', e', W', st'⟩ := putF X K.hx K.hZ K.hown w via eT F E (L.imp id fun q => ⟨q.1, q.2.1, K.hnm.trans q.2.2⟩) wi hty hn hf (g := mkF m pc Ls (v :: .ref a :: St)) rfl rfl (hb K.hby hd)
  exact OGo.st st' (hr T' h' _ X' e' W' (Fr.snoc X' N ge))
theorem o_putfieldN (X : Stand p l e R s m args below meth c T locs cells slots) (K : OCx p s m meth c Z own nm bytes maxL ret) {index kk : Nat} {R0 O n d C : String} {a : Addr} {v v' old : Value} {ty : FieldType} (hd : decode bytes pc = .ok (.putfield index, 3)) (pc' : Nat) (hp : pc + 3 = pc') (w : (Jvm.Cond.fieldLink own index R0 n d).before a0 Z = true) (via : Via Z R0 O n d) (eT : T.heap = h) (F : Fld Z h a O n d old) (E : Exa Z h a C)
    (L : (Jvm.Cond.lays C O n d).before a0 Z = true ∨ ((Jvm.Cond.laysFinal C O n d).before a0 Z = true ∧ own = O ∧ nm = "<init>")) (wi : (Jvm.Cond.instantiable C kk).before a0 Z = true) (hty : parseFieldDescriptor d = some ty) (hn : narrow ty v = v') (hf : fits ty v' = true) (N : Fr n0 locs) (ge : n0 ≤ a)
    (hr : ∀ T' h' locs', Stand p l e R s m args below meth c T' locs' cells slots → T'.heap = h' → Wr h h' a (Jvm.RoadKit.slotOf Z O n d) v' → Fr n0 locs' → OGo p e below s n0 Q kc ks (T'.setTop (mkF m pc' Ls St))) : OGo p e below s n0 Q kc ks (T.setTop (mkF m pc Ls (v :: .ref a :: St))) := by
  subst hp
  obtain ⟨T', h', X', e', W', st'⟩ := putFN X K.hx K.hZ K.hown w via eT F E (L.imp id fun q => ⟨q.1, q.2.1, K.hnm.trans q.2.2⟩) wi hty hn hf (g := mkF m pc Ls (v :: .ref a :: St)) rfl rfl (hb K.hby hd)
  exact OGo.st st' (hr T' h' _ X' e' W' (Fr.snoc X' N ge))
theorem o_invokestatic (X : Stand p l e R s m args below meth c T locs cells slots) (K : OCx p s m meth c Z own nm bytes maxL ret) {index : Nat} {y : MethodName} {bytes' : ByteArray} {maxL' : Nat} {ret' : Option FieldType} {rm : Room} {Q' : Option Value → Heap → Prop} (hd : decode bytes pc = .ok (.invokestatic index, 3)) (pc' : Nat) (hp : pc + 3 = pc') (w1 : (Jvm.Cond.methodLink own index y).before a0 Z = true) (w2 : (Jvm.Cond.static y).before a0 Z = true) (w3 : (Jvm.Cond.initialized y.cls).before a0 Z = true) (w4 : (Jvm.Cond.code y bytes' maxL' ret').before a0 Z = true) (hy : y.cls ≠ "java/lang/invoke/MethodHandle" ∧ y.cls ≠ "java/lang/invoke/VarHandle")
    (argsL rest : List Value) (hst : St = argsL.reverse ++ rest) (con : OCon l Z n0 y bytes' maxL' ret' rm argsL.toArray h Q') (eT : T.heap = h) (hsz : Ls.size = maxL) (hlen : ∀ sig, parseMethodDescriptor y.desc = some sig → argsL.length = sig.parameters.length) (hf : rm.frames + 1 ≤ R.frames) (W : Nat) (hW : (rest.map fun v => v.category).sum ≤ W) (hlo : W + (maxL' + 11) + rm.locals ≤ R.locals) (hc : cells + rm.cells ≤ R.cells) (hs : slots + rm.slots ≤ R.slots) (N : Fr n0 locs)
    (hr : ∀ v T' h' locs', Stand p l e R s m args below meth c T' locs' (cells + rm.cells) (slots + rm.slots) → T'.heap = h' → Q' v h' → Fr n0 locs' → OGo p e below s n0 Q kc ks (T'.setTop (mkF m pc' Ls (v.toList ++ rest)))) : OGo p e below s n0 Q kc ks (T.setTop (mkF m pc Ls St)) := by
  subst hp hst
  obtain ⟨v, vm₁, ⟨T', L', k', n'⟩, -, X', ⟨Lc, ⟨hQ, hF⟩, l1, y1, z1⟩, st⟩ := Jvm.LawKit.callS X K.hx K.hown (mvT K.hZ w1) (mvT K.hZ w2) (mvT K.hZ w3) (mvT K.hZ w4) hy (backOf (W := W) (Q := fun v h L => Q' v h ∧ Fr n0 L) (con []) K.hZ w4 w3 hf hlo) (g := mkF m pc Ls (argsL.reverse ++ rest)) rfl (by rw [K.hml]; exact hsz) (argsL := argsL) (rest := rest) hlen rfl (by show 2 * 0 + _ ≤ _; omega) (hb K.hby hd) (fun _ _ => ⟨rfl, eT, hc, hs⟩)
  dsimp only [Pt.U, Pt.locs, Pt.cells, Pt.slots] at X' l1 y1 z1 st hQ
  subst l1 y1 z1
  exact OGo.st st (hr v T' _ _ X' rfl hQ (Fr.app N hF))
theorem o_invokespecial (X : Stand p l e R s m args below meth c T locs cells slots) (K : OCx p s m meth c Z own nm bytes maxL ret) {index : Nat} {y : MethodName} {bytes' : ByteArray} {maxL' : Nat} {rm : Room} {Q' : Option Value → Heap → Prop} {a : Addr} (hd : decode bytes pc = .ok (.invokespecial index, 3)) (pc' : Nat) (hp : pc + 3 = pc') (hy1 : y.name = "<init>") (w1 : (Jvm.Cond.methodLink own index y).before a0 Z = true) (w2 : (Jvm.Cond.instanceMethod y).before a0 Z = true) (w3 : (Jvm.Cond.initialized y.cls).before a0 Z = true) (w4 : (Jvm.Cond.code y bytes' maxL' none).before a0 Z = true) (hy : y.cls ≠ "java/lang/invoke/MethodHandle" ∧ y.cls ≠ "java/lang/invoke/VarHandle")
    (argsL rest : List Value) (hst : St = argsL.reverse ++ .ref a :: rest) (con : OCon l Z n0 y bytes' maxL' none rm (.ref a :: argsL).toArray h Q') (eT : T.heap = h) (hsz : Ls.size = maxL) (hlen : ∀ sig, parseMethodDescriptor y.desc = some sig → argsL.length = sig.parameters.length) (hf : rm.frames + 1 ≤ R.frames) (W : Nat) (hW : (rest.map fun v => v.category).sum ≤ W) (hlo : W + (maxL' + 11) + rm.locals ≤ R.locals) (hc : cells + rm.cells ≤ R.cells) (hs : slots + rm.slots ≤ R.slots) (N : Fr n0 locs)
    (hr : ∀ v T' h' locs', Stand p l e R s m args below meth c T' locs' (cells + rm.cells) (slots + rm.slots) → T'.heap = h' → Q' v h' → Fr n0 locs' → OGo p e below s n0 Q kc ks (T'.setTop (mkF m pc' Ls (v.toList ++ rest)))) : OGo p e below s n0 Q kc ks (T.setTop (mkF m pc Ls St)) := by
  subst hp hst
  obtain ⟨v, vm₁, ⟨T', L', k', n'⟩, -, X', ⟨Lc, ⟨hQ, hF⟩, l1, y1, z1⟩, st⟩ := X.specialBack K.hx hy1 K.hown (mvT K.hZ w1) (mvT K.hZ w2) (mvT K.hZ w4) hy (backOf (W := W) (Q := fun v h L => Q' v h ∧ Fr n0 L) (con []) K.hZ w4 w3 hf hlo) (g := mkF m pc Ls (argsL.reverse ++ .ref a :: rest)) rfl (by rw [K.hml]; exact hsz) (Steps.refl _) (argsL := argsL) (rest := rest) hlen rfl (by show 2 * 0 + _ ≤ _; omega) (hb K.hby hd) (fun _ _ => ⟨rfl, eT, hc, hs⟩)
  dsimp only [Pt.U, Pt.locs, Pt.cells, Pt.slots] at X' l1 y1 z1 st hQ
  subst l1 y1 z1
  exact OGo.st (fun t k => st.trans k) (hr v T' _ _ X' rfl hQ (Fr.app N hF))
theorem o_invokevirtual (X : Stand p l e R s m args below meth c T locs cells slots) (K : OCx p s m meth c Z own nm bytes maxL ret) {index : Nat} {y : MethodName} {bytes' : ByteArray} {maxL' : Nat} {ret' : Option FieldType} {rm : Room} {Q' : Option Value → Heap → Prop} {C : String} {a : Addr} (hd : decode bytes pc = .ok (.invokevirtual index, 3)) (pc' : Nat) (hp : pc + 3 = pc') (w1 : (Jvm.Cond.methodLink own index y).before a0 Z = true) (w2 : (Jvm.Cond.declares y).before a0 Z = true) (wsel : (Jvm.Cond.selects C y y).before a0 Z = true) (w5 : (Jvm.Cond.instanceMethod y).before a0 Z = true) (w3 : (Jvm.Cond.initialized y.cls).before a0 Z = true) (w4 : (Jvm.Cond.code y bytes' maxL' ret').before a0 Z = true) (hy : y.cls ≠ "java/lang/invoke/MethodHandle" ∧ y.cls ≠ "java/lang/invoke/VarHandle")
    (E : Exa Z h a C) (argsL rest : List Value) (hst : St = argsL.reverse ++ .ref a :: rest) (con : OCon l Z n0 y bytes' maxL' ret' rm (.ref a :: argsL).toArray h Q') (eT : T.heap = h) (hsz : Ls.size = maxL) (hlen : ∀ sig, parseMethodDescriptor y.desc = some sig → argsL.length = sig.parameters.length) (hf : rm.frames + 1 ≤ R.frames) (W : Nat) (hW : (rest.map fun v => v.category).sum ≤ W) (hlo : W + (maxL' + 11) + rm.locals ≤ R.locals) (hc : cells + rm.cells ≤ R.cells) (hs : slots + rm.slots ≤ R.slots) (N : Fr n0 locs)
    (hr : ∀ v T' h' locs', Stand p l e R s m args below meth c T' locs' (cells + rm.cells) (slots + rm.slots) → T'.heap = h' → Q' v h' → Fr n0 locs' → OGo p e below s n0 Q kc ks (T'.setTop (mkF m pc' Ls (v.toList ++ rest)))) : OGo p e below s n0 Q kc ks (T.setTop (mkF m pc Ls St)) := by
  subst hp hst
  obtain ⟨cq, kq, qa, qb, qc⟩ := isOf K.hZ eT E
  obtain ⟨v, vm₁, ⟨T', L', k', n'⟩, -, X', ⟨Lc, ⟨hQ, hF⟩, l1, y1, z1⟩, st⟩ := X.virtualBack K.hx K.hown (mvT K.hZ w1) (mvT K.hZ w2) (notFace_of_selects (args := #[]) (mvT K.hZ wsel)) (mvT K.hZ wsel) (mvT K.hZ w5) hy (backOf (W := W) (Q := fun v h L => Q' v h ∧ Fr n0 L) (con []) K.hZ w4 w3 hf hlo) qa qc (g := mkF m pc Ls (argsL.reverse ++ .ref a :: rest)) rfl (by rw [K.hml]; exact hsz) (Steps.refl _) (argsL := argsL) (rest := rest) hlen rfl (by show 2 * 0 + _ ≤ _; omega) (hb K.hby hd) (fun _ _ => ⟨rfl, eT, hc, hs⟩)
  dsimp only [Pt.U, Pt.locs, Pt.cells, Pt.slots] at X' l1 y1 z1 st hQ
  subst l1 y1 z1
  exact OGo.st (fun t k => st.trans k) (hr v T' _ _ X' rfl hQ (Fr.app N hF))
theorem o_nb (x : Int32) : nar .byte (x.toInt8.toInt32) = x.toInt8.toInt32 := by
  show x.toInt8.toInt32.toInt8.toInt32 = _
  simp
theorem o_join {α : Type} (F : α → State) (P : α → Prop) {S : State} (hgo : (∀ b, P b → OGo p e below s n0 Q kc ks (F b)) → OGo p e below s n0 Q kc ks S) (hrest : ∀ b, P b → OGo p e below s n0 Q kc ks (F b)) : OGo p e below s n0 Q kc ks S := hgo hrest
theorem o_ind {α : Type} (F : α → State) (Inv : Nat → α → Prop) (hz : ∀ a, Inv 0 a → OGo p e below s n0 Q kc ks (F a)) (hs : ∀ d, (∀ a, Inv d a → OGo p e below s n0 Q kc ks (F a)) → ∀ a, Inv (d + 1) a → OGo p e below s n0 Q kc ks (F a)) (d : Nat) (a : α) (i : Inv d a) : OGo p e below s n0 Q kc ks (F a) := by
  induction d generalizing a with
  | zero => exact hz a i
  | succ d ih => exact hs d ih a i
theorem o_sta_keep {C n d : String} {v : Value} {ws : List Addr} (F : Sta Z h C n d v) (k : Keep h h' ws) (q : ∀ x ∈ ws, ∀ cell : Cell, h[x]? = some cell → cell.vm.isStatics = false) : Sta Z h' C n d v := by
  obtain ⟨cf, i, kk, f, st, cell, h1, h2, h3, h4, h5, h6, h7⟩ := F
  refine ⟨cf, i, kk, f, st, cell, h1, h2, h3, h4, k.2.1 _ _ h5 (fun z => ?_), h6, h7⟩
  rw [q st z cell h5] at h6
  cases h6
theorem o_nat {n : Nat} (h : n < 2147483648) : (n.toInt32).toNatClampNeg = n := by
  rw [← Int32.toNat_toInt, o_len h]
  rfl
theorem o_getD {n i : Nat} {f : Nat → Value} {d : Value} (h : i < n) : ((List.range n).map f).getD i d = f i := by
  simp [List.getD_eq_getElem?_getD, h]
theorem OAr.arv {a : Addr} {ty : FieldType} {n : Nat} {f : Nat → Value} (A : OAr Z h a ty n f) (dv : Value) : ∃ k, Arv Z h a k ty n.toInt32 ((List.range n).map f) dv := by
  obtain ⟨cl, A, r1, r2, r3, r4⟩ := A
  refine ⟨cl.cls, cl, A, rfl, by rw [r1, o_nat r2], ?_, fun k hk => ?_, fun i hi => ?_⟩
  · rw [Int32.lt_iff_toInt_lt, o_len r2]
    have : (0 : Int32).toInt = 0 := rfl
    omega
  · rw [o_getD (by omega)]
    exact r3 k (by omega)
  · rw [o_getD (by omega)]
    exact r4 i (by omega)
theorem OAr.of_arv {a : Addr} {k : ClassId} {ty : FieldType} {n : Nat} {vs : List Value} {dv : Value} {f : Nat → Value} (hn : n < 2147483648) (A : Arv Z h a k ty n.toInt32 vs dv) (q : ∀ j, j < n → vs.getD j dv = f j) : OAr Z h a ty n f := by
  obtain ⟨cl, A, -, r1, -, r3, r4⟩ := A
  rw [o_nat hn] at r1
  refine ⟨cl, A, r1, hn, fun j hj => ?_, fun j hj => ?_⟩
  · rw [← q j hj]
    exact r3 j (by omega)
  · rw [← q j hj]
    exact r4 j (by omega)
theorem OAr.of_arh {a : Addr} {k : ClassId} {ty : FieldType} {n : Nat} {vs : List Value} {dv : Value} {f : Nat → Value} (hn : n < 2147483648) (A : Arh Z h a k ty n.toInt32 [] vs dv) (q : ∀ j, j < n → vs.getD j dv = f j) : OAr Z h a ty n f := by
  obtain ⟨cl, A, -, r1, -, r3, r4⟩ := A
  rw [o_nat hn] at r1
  refine ⟨cl, A, r1, hn, fun j hj => ?_, fun j hj => ?_⟩
  · rw [← q j hj]
    exact r3 j (by omega)
  · rw [← q j hj]
    exact r4 j (by omega)
theorem o_splice {n' i j k : Nat} {f g : Nat → Value} {dd : Value} (h5 : j + k ≤ n') (q : Nat) (hq : q < n') : (((List.range n').map g).take j ++ (List.range k).map (fun z => f (i + z)) ++ ((List.range n').map g).drop (j + k)).getD q dd = if j ≤ q ∧ q < j + k then f (i + (q - j)) else g q := by
  rw [List.getD_eq_getElem?_getD]
  by_cases h1 : q < j
  · rw [if_neg (by omega), List.append_assoc, List.getElem?_append_left (by simp; omega)]
    simp [List.getElem?_take, h1, hq]
  · by_cases h2 : q < j + k
    · rw [if_pos ⟨by omega, h2⟩, List.append_assoc, List.getElem?_append_right (by simp; omega), List.getElem?_append_left (by simp; omega)]
      have e : min j n' = j := by omega
      have h3 : q - j < k := by omega
      simp [e, h3]
    · rw [if_neg (by omega), List.getElem?_append_right (by simp; omega)]
      have e : min j n' = j := by omega
      have e2 : j + k + (q - (j + k)) = q := by omega
      simp [List.getElem?_drop, e, e2, hq]
theorem o_arraycopy (X : Stand p l e R s m args below meth c T locs cells slots) (K : OCx p s m meth c Z own nm bytes maxL ret) {index : Nat} {a b : Addr} {n n' : Nat} {f g : Nat → Value} {ty : FieldType} {sp dp nn : Int32} {i j k : Nat} (hd : decode bytes pc = .ok (.invokestatic index, 3)) (pc' : Nat) (hp : pc + 3 = pc') (w1 : (Jvm.Cond.methodLink own index Jvm.Stand.acN).before a0 Z = true) (w2 : (Jvm.Cond.native Jvm.Stand.acN).before a0 Z = true) (w3 : (Jvm.Cond.static Jvm.Stand.acN).before a0 Z = true) (w4 : (Jvm.Cond.initialized "java/lang/System").before a0 Z = true) (eT : T.heap = h)
    (A : OAr Z h a ty n f) (B : OAr Z h b ty n' g) (hty : refKind ty = false) (h1 : sp.toInt = (i : Int)) (h2 : dp.toInt = (j : Int)) (h3 : nn.toInt = (k : Int)) (h4 : i + k ≤ n) (h5 : j + k ≤ n') (N : Fr n0 locs) (ge : n0 ≤ b) (hsz : Ls.size = maxL) (hf : 1 ≤ R.frames) (W : Nat) (hW : (St.map fun v => v.category).sum ≤ W) (hlo : W + (nativeFrameWords "java/lang/System" "arraycopy" 5 + 11) ≤ R.locals)
    (hr : ∀ T' h' locs', Stand p l e R s m args below meth c T' locs' cells slots → T'.heap = h' → Keep h h' [b] → OAr Z h' b ty n' (fun q => if j ≤ q ∧ q < j + k then f (i + (q - j)) else g q) → Fr n0 locs' → OGo p e below s n0 Q kc ks (T'.setTop (mkF m pc' Ls St))) : OGo p e below s n0 Q kc ks (T.setTop (mkF m pc Ls (.int nn :: .int dp :: .ref b :: .int sp :: .ref a :: St))) := by
  subst hp
  have c1 : sp.toNatClampNeg = i := by rw [← Int32.toNat_toInt, h1]; rfl
  have c2 : dp.toNatClampNeg = j := by rw [← Int32.toNat_toInt, h2]; rfl
  have c3 : nn.toNatClampNeg = k := by rw [← Int32.toNat_toInt, h3]; rfl
  have z0 : (0 : Int32).toInt = 0 := rfl
  have la := A.len
  have lb := B.len
  obtain ⟨ka, A'⟩ := A.arv .null
  obtain ⟨kb, B'⟩ := B.arv .null
  obtain ⟨T', h', L, X', e', N', K', C', st'⟩ := cpA X K.hx K.hZ K.hown w1 w2 w3 w4 eT (sp := sp) (dp := dp) (nn := nn) (us := (List.range k).map (fun z => f (i + z))) A' B' (Or.inl ⟨rfl, hty⟩) (by rw [Int32.lt_iff_toInt_lt, h1]; omega) (by rw [Int32.lt_iff_toInt_lt, h2]; omega) (by rw [Int32.lt_iff_toInt_lt, h3]; omega) (by rw [c1, c3, o_nat la]; exact h4) (by rw [c2, c3, o_nat lb]; exact h5)
    (by rw [c1, c3]; exact List.map_congr_left fun z hz => (o_getD (by have := List.mem_range.mp hz; omega)).symm) (by rw [c2, c3]; simp; exact h5) N ge (g := mkF m pc Ls (.int nn :: .int dp :: .ref b :: .int sp :: .ref a :: St)) rfl (by rw [K.hml]; exact hsz) rfl (hb K.hby hd) hf (W := W) (by show 2 * 0 + _ ≤ _; omega) hlo
  rw [c2, c3] at C'
  exact OGo.st st' (hr T' h' L X' e' K' (OAr.of_arv lb C' (fun q hq => o_splice h5 q hq)) N')
theorem o_clone (X : Stand p l e R s m args below meth c T locs cells slots) (K : OCx p s m meth c Z own nm bytes maxL ret) {index : Nat} {ad : String} {a : Addr} {n : Nat} {f : Nat → Value} {ty : FieldType} (hd : decode bytes pc = .ok (.invokevirtual index, 3)) (pc' : Nat) (hp : pc + 3 = pc') (w1 : (Jvm.Cond.methodLink own index ⟨ad, "clone", "()Ljava/lang/Object;"⟩).before a0 Z = true) (w2 : (Jvm.Cond.sameMethod ad "java/lang/Object" "clone" "()Ljava/lang/Object;").before a0 Z = true) (w3 : (Jvm.Cond.native ⟨"java/lang/Object", "clone", "()Ljava/lang/Object;"⟩).before a0 Z = true)
    (w4 : (Jvm.Cond.instanceMethod ⟨"java/lang/Object", "clone", "()Ljava/lang/Object;"⟩).before a0 Z = true) (w5 : (Jvm.Cond.selects ad ⟨ad, "clone", "()Ljava/lang/Object;"⟩ ⟨"java/lang/Object", "clone", "()Ljava/lang/Object;"⟩).before a0 Z = true) (w6 : (Jvm.Cond.castable ad "java/lang/Cloneable").before a0 Z = true)
    (eT : T.heap = h) (A : OAr Z h a ty n f) (E : Exa Z h a ad) (hsz : Ls.size = maxL) (hf : 1 ≤ R.frames) (W cap : Nat) (hW : (St.map fun v => v.category).sum ≤ W) (hl : W + 14 ≤ R.locals) (hcap : n ≤ cap) (hc : cells + 1 ≤ R.cells) (hsl : slots + cap ≤ R.slots)
    (hr : ∀ T' h' b, b = h.size → Stand p l e R s m args below meth c T' locs (cells + 1) (slots + cap) → T'.heap = h' → Ext h h' → OAr Z h' b ty n f → Exa Z h' b ad → OGo p e below s n0 Q kc ks (T'.setTop (mkF m pc' Ls (.ref b :: St)))) : OGo p e below s n0 Q kc ks (T.setTop (mkF m pc Ls (.ref a :: St))) := by
  subst hp
  have la := A.len
  obtain ⟨ka, A'⟩ := A.arv .null
  obtain ⟨T', h', X', e', E', C', D', st'⟩ := cloneH X K.hx K.hZ K.hown w1 w2 w3 w4 w5 w6 eT A'.arh E (g := mkF m pc Ls (.ref a :: St)) rfl (by rw [K.hml]; exact hsz) rfl (hb K.hby hd) hf (W := W) (cap := cap) (by show 2 * 0 + _ ≤ _; omega) hl (by rw [o_nat la]; exact hcap) hc hsl
  exact OGo.st st' (hr T' h' _ rfl X' e' E' (OAr.of_arh la C' (fun q hq => o_getD hq)) D')
theorem o_checkcast (X : Stand p l e R s m args below meth c T locs cells slots) (K : OCx p s m meth c Z own nm bytes maxL ret) {index : Nat} {C : String} {a : Addr} (hd : decode bytes pc = .ok (.checkcast index, 3)) (pc' : Nat) (hp : pc + 3 = pc') (w : (Jvm.Cond.classLink own index C).before a0 Z = true) (eT : T.heap = h) (F : Ins Z h a C true)
    (hr : ∀ T', Stand p l e R s m args below meth c T' locs cells slots → T'.heap = h → OGo p e below s n0 Q kc ks (T'.setTop (mkF m pc' Ls (.ref a :: St)))) : OGo p e below s n0 Q kc ks (T.setTop (mkF m pc Ls (.ref a :: St))) := by
  subst hp
  obtain ⟨T', X', e', st'⟩ := castY X K.hx K.hZ K.hown w eT F (g := mkF m pc Ls (.ref a :: St)) rfl rfl (hb K.hby hd)
  exact OGo.st st' (hr T' X' e')
theorem o_invokeprivate (X : Stand p l e R s m args below meth c T locs cells slots) (K : OCx p s m meth c Z own nm bytes maxL ret) {index : Nat} {y : MethodName} {bytes' : ByteArray} {maxL' : Nat} {ret' : Option FieldType} {rm : Room} {Q' : Option Value → Heap → Prop} {a : Addr} {C : String} (hd : decode bytes pc = .ok (.invokevirtual index, 3)) (pc' : Nat) (hp : pc + 3 = pc') (w1 : (Jvm.Cond.methodLink own index y).before a0 Z = true) (w2 : (Jvm.Cond.instanceMethod y).before a0 Z = true) (wp : (Jvm.Cond.privateMethod y).before a0 Z = true) (w3 : (Jvm.Cond.initialized y.cls).before a0 Z = true) (w4 : (Jvm.Cond.code y bytes' maxL' ret').before a0 Z = true) (hy : y.cls ≠ "java/lang/invoke/MethodHandle" ∧ y.cls ≠ "java/lang/invoke/VarHandle") (wi : ∃ k, (Jvm.Cond.instantiable y.cls k).before a0 Z = true)
    (E : Exa Z h a C) (argsL rest : List Value) (hst : St = argsL.reverse ++ .ref a :: rest) (con : OCon l Z n0 y bytes' maxL' ret' rm (.ref a :: argsL).toArray h Q') (eT : T.heap = h) (hsz : Ls.size = maxL) (hlen : ∀ sig, parseMethodDescriptor y.desc = some sig → argsL.length = sig.parameters.length) (hf : rm.frames + 1 ≤ R.frames) (W : Nat) (hW : (rest.map fun v => v.category).sum ≤ W) (hlo : W + (maxL' + 11) + rm.locals ≤ R.locals) (hc : cells + rm.cells ≤ R.cells) (hs : slots + rm.slots ≤ R.slots) (N : Fr n0 locs)
    (hr : ∀ v T' h' locs', Stand p l e R s m args below meth c T' locs' (cells + rm.cells) (slots + rm.slots) → T'.heap = h' → Q' v h' → Fr n0 locs' → OGo p e below s n0 Q kc ks (T'.setTop (mkF m pc' Ls (v.toList ++ rest)))) : OGo p e below s n0 Q kc ks (T.setTop (mkF m pc Ls St)) := by
  subst hp hst
  obtain ⟨cell, hcell, hobj⟩ := E.cell
  obtain ⟨kk, wi⟩ := wi
  have hpriv : s.PrivateAt y := Cond.privateMethod_at (mvP K.hZ wp (args := #[]))
  have wi' : (Jvm.Cond.instantiable y.cls kk).before args s = true := mvT K.hZ wi
  obtain ⟨cI, kI, i1, i2, i3, i4⟩ := Cond.instantiable_spec wi'
  have hsel : (Jvm.Cond.selects y.cls y y).before args s = true := selects_self_of_private i1 i2 (Bool.or_eq_false_iff.mp i4.1).1 hpriv (mvT K.hZ w2) hy
  obtain ⟨v, vm₁, ⟨T', L', k', n'⟩, -, X', ⟨Lc, ⟨hQ, hF⟩, l1, y1, z1⟩, st⟩ := X.privateBack K.hx K.hown (mvT K.hZ w1) (mvT K.hZ w2) hsel hpriv (mvT K.hZ w4) hy (backOf (W := W) (Q := fun v h L => Q' v h ∧ Fr n0 L) (con []) K.hZ w4 w3 hf hlo) (g := mkF m pc Ls (argsL.reverse ++ .ref a :: rest)) rfl (by rw [K.hml]; exact hsz) (Steps.refl _) (a := a) (by rw [eT]; exact hcell) hobj (argsL := argsL) (rest := rest) hlen rfl (by show 2 * 0 + _ ≤ _; omega) (hb K.hby hd) (fun _ _ => ⟨rfl, eT, hc, hs⟩)
  dsimp only [Pt.U, Pt.locs, Pt.cells, Pt.slots] at X' l1 y1 z1 st hQ
  subst l1 y1 z1
  exact OGo.st (fun t k => st.trans k) (hr v T' _ _ X' rfl hQ (Fr.app N hF))
abbrev OW (Z : State) (a0 : Array Value) : Prop := ∀ d ∈ tables_1, d.before a0 Z = true
end Own
set_option maxRecDepth 65536
theorem w_0 {Z : State} {a0 : Array Value} (hw : OW Z a0) : (Jvm.Cond.classLink "com/example/planwright/planwright/WholeNumbersGetPinLaw" (7 : Nat) "com/example/planwright/planwright/WholeNumbers").before a0 Z = true := hw _ (List.mem_of_getElem? (i := 0) rfl)
theorem w_1 {Z : State} {a0 : Array Value} (hw : OW Z a0) : (Jvm.Cond.instantiable "com/example/planwright/planwright/WholeNumbers" (3 : Nat)).before a0 Z = true := hw _ (List.mem_of_getElem? (i := 1) rfl)
theorem w_2 {Z : State} {a0 : Array Value} (hw : OW Z a0) : (Jvm.Cond.initialized "com/example/planwright/planwright/WholeNumbers").before a0 Z = true := hw _ (List.mem_of_getElem? (i := 2) rfl)
theorem w_3 {Z : State} {a0 : Array Value} (hw : OW Z a0) : (Jvm.Cond.methodLink "com/example/planwright/planwright/WholeNumbersGetPinLaw" (9 : Nat) ({ cls := "com/example/planwright/planwright/WholeNumbers", name := "<init>", desc := "()V" } : Jvm.MethodName)).before a0 Z = true := hw _ (List.mem_of_getElem? (i := 3) rfl)
theorem w_4 {Z : State} {a0 : Array Value} (hw : OW Z a0) : (Jvm.Cond.instanceMethod ({ cls := "com/example/planwright/planwright/WholeNumbers", name := "<init>", desc := "()V" } : Jvm.MethodName)).before a0 Z = true := hw _ (List.mem_of_getElem? (i := 4) rfl)
theorem w_5 {Z : State} {a0 : Array Value} (hw : OW Z a0) : (Jvm.Cond.code ({ cls := "com/example/planwright/planwright/WholeNumbers", name := "<init>", desc := "()V" } : Jvm.MethodName) prog_5_method_1_code (1 : Nat) (Option.none : Option Jvm.ClassFile.FieldType)).before a0 Z = true := hw _ (List.mem_of_getElem? (i := 5) rfl)
theorem w_6 {Z : State} {a0 : Array Value} (hw : OW Z a0) : (Jvm.Cond.methodLink "com/example/planwright/planwright/WholeNumbers" (1 : Nat) ({ cls := "java/lang/Object", name := "<init>", desc := "()V" } : Jvm.MethodName)).before a0 Z = true := hw _ (List.mem_of_getElem? (i := 6) rfl)
theorem w_7 {Z : State} {a0 : Array Value} (hw : OW Z a0) : (Jvm.Cond.instanceMethod ({ cls := "java/lang/Object", name := "<init>", desc := "()V" } : Jvm.MethodName)).before a0 Z = true := hw _ (List.mem_of_getElem? (i := 7) rfl)
theorem w_8 {Z : State} {a0 : Array Value} (hw : OW Z a0) : (Jvm.Cond.code ({ cls := "java/lang/Object", name := "<init>", desc := "()V" } : Jvm.MethodName) object_method_1_code (1 : Nat) (Option.none : Option Jvm.ClassFile.FieldType)).before a0 Z = true := hw _ (List.mem_of_getElem? (i := 8) rfl)
theorem w_9 {Z : State} {a0 : Array Value} (hw : OW Z a0) : (Jvm.Cond.arrayClass Jvm.ClassFile.FieldType.int).before a0 Z = true := hw _ (List.mem_of_getElem? (i := 9) rfl)
theorem w_10 {Z : State} {a0 : Array Value} (hw : OW Z a0) : (Jvm.Cond.fieldLink "com/example/planwright/planwright/WholeNumbers" (9 : Nat) "com/example/planwright/planwright/WholeNumbers" "ints" "[I").before a0 Z = true := hw _ (List.mem_of_getElem? (i := 10) rfl)
theorem w_11 {Z : State} {a0 : Array Value} (hw : OW Z a0) : (Jvm.Cond.lays "com/example/planwright/planwright/WholeNumbers" "com/example/planwright/planwright/WholeNumbers" "ints" "[I").before a0 Z = true := hw _ (List.mem_of_getElem? (i := 11) rfl)
theorem w_12 {Z : State} {a0 : Array Value} (hw : OW Z a0) : (Jvm.Cond.methodLink "com/example/planwright/planwright/WholeNumbersGetPinLaw" (10 : Nat) ({ cls := "com/example/planwright/planwright/WholeNumbers", name := "trim", desc := "()V" } : Jvm.MethodName)).before a0 Z = true := hw _ (List.mem_of_getElem? (i := 12) rfl)
theorem w_13 {Z : State} {a0 : Array Value} (hw : OW Z a0) : (Jvm.Cond.declares ({ cls := "com/example/planwright/planwright/WholeNumbers", name := "trim", desc := "()V" } : Jvm.MethodName)).before a0 Z = true := hw _ (List.mem_of_getElem? (i := 13) rfl)
theorem w_14 {Z : State} {a0 : Array Value} (hw : OW Z a0) : (Jvm.Cond.instanceMethod ({ cls := "com/example/planwright/planwright/WholeNumbers", name := "trim", desc := "()V" } : Jvm.MethodName)).before a0 Z = true := hw _ (List.mem_of_getElem? (i := 14) rfl)
theorem w_15 {Z : State} {a0 : Array Value} (hw : OW Z a0) : (Jvm.Cond.selects "com/example/planwright/planwright/WholeNumbers" ({ cls := "com/example/planwright/planwright/WholeNumbers", name := "trim", desc := "()V" } : Jvm.MethodName) ({ cls := "com/example/planwright/planwright/WholeNumbers", name := "trim", desc := "()V" } : Jvm.MethodName)).before a0 Z = true := hw _ (List.mem_of_getElem? (i := 15) rfl)
theorem w_16 {Z : State} {a0 : Array Value} (hw : OW Z a0) : (Jvm.Cond.code ({ cls := "com/example/planwright/planwright/WholeNumbers", name := "trim", desc := "()V" } : Jvm.MethodName) prog_5_method_5_code (1 : Nat) (Option.none : Option Jvm.ClassFile.FieldType)).before a0 Z = true := hw _ (List.mem_of_getElem? (i := 16) rfl)
theorem w_17 {Z : State} {a0 : Array Value} (hw : OW Z a0) : (Jvm.Cond.fieldLink "com/example/planwright/planwright/WholeNumbers" (13 : Nat) "com/example/planwright/planwright/WholeNumbers" "longs" "[J").before a0 Z = true := hw _ (List.mem_of_getElem? (i := 17) rfl)
theorem w_18 {Z : State} {a0 : Array Value} (hw : OW Z a0) : (Jvm.Cond.lays "com/example/planwright/planwright/WholeNumbers" "com/example/planwright/planwright/WholeNumbers" "longs" "[J").before a0 Z = true := hw _ (List.mem_of_getElem? (i := 18) rfl)
theorem w_19 {Z : State} {a0 : Array Value} (hw : OW Z a0) : (Jvm.Cond.fieldLink "com/example/planwright/planwright/WholeNumbers" (17 : Nat) "com/example/planwright/planwright/WholeNumbers" "size" "I").before a0 Z = true := hw _ (List.mem_of_getElem? (i := 19) rfl)
theorem w_20 {Z : State} {a0 : Array Value} (hw : OW Z a0) : (Jvm.Cond.lays "com/example/planwright/planwright/WholeNumbers" "com/example/planwright/planwright/WholeNumbers" "size" "I").before a0 Z = true := hw _ (List.mem_of_getElem? (i := 20) rfl)
theorem w_21 {Z : State} {a0 : Array Value} (hw : OW Z a0) : (Jvm.Cond.methodLink "com/example/planwright/planwright/WholeNumbers" (25 : Nat) ({ cls := "java/util/Arrays", name := "copyOf", desc := "([II)[I" } : Jvm.MethodName)).before a0 Z = true := hw _ (List.mem_of_getElem? (i := 21) rfl)
theorem w_22 {Z : State} {a0 : Array Value} (hw : OW Z a0) : (Jvm.Cond.static ({ cls := "java/util/Arrays", name := "copyOf", desc := "([II)[I" } : Jvm.MethodName)).before a0 Z = true := hw _ (List.mem_of_getElem? (i := 22) rfl)
theorem w_23 {Z : State} {a0 : Array Value} (hw : OW Z a0) : (Jvm.Cond.initialized "java/util/Arrays").before a0 Z = true := hw _ (List.mem_of_getElem? (i := 23) rfl)
theorem w_24 {Z : State} {a0 : Array Value} (hw : OW Z a0) : (Jvm.Cond.code ({ cls := "java/util/Arrays", name := "copyOf", desc := "([II)[I" } : Jvm.MethodName) jdk_65_method_123_code (3 : Nat) (Option.some (Jvm.ClassFile.FieldType.array Jvm.ClassFile.FieldType.int))).before a0 Z = true := hw _ (List.mem_of_getElem? (i := 24) rfl)
theorem w_25 {Z : State} {a0 : Array Value} (hw : OW Z a0) : (Jvm.Cond.methodLink "java/util/Arrays" (304 : Nat) ({ cls := "java/lang/Math", name := "min", desc := "(II)I" } : Jvm.MethodName)).before a0 Z = true := hw _ (List.mem_of_getElem? (i := 25) rfl)
theorem w_26 {Z : State} {a0 : Array Value} (hw : OW Z a0) : (Jvm.Cond.static ({ cls := "java/lang/Math", name := "min", desc := "(II)I" } : Jvm.MethodName)).before a0 Z = true := hw _ (List.mem_of_getElem? (i := 26) rfl)
theorem w_27 {Z : State} {a0 : Array Value} (hw : OW Z a0) : (Jvm.Cond.initialized "java/lang/Math").before a0 Z = true := hw _ (List.mem_of_getElem? (i := 27) rfl)
theorem w_28 {Z : State} {a0 : Array Value} (hw : OW Z a0) : (Jvm.Cond.code ({ cls := "java/lang/Math", name := "min", desc := "(II)I" } : Jvm.MethodName) jdk_29_method_69_code (2 : Nat) (Option.some Jvm.ClassFile.FieldType.int)).before a0 Z = true := hw _ (List.mem_of_getElem? (i := 28) rfl)
theorem w_29 {Z : State} {a0 : Array Value} (hw : OW Z a0) : (Jvm.Cond.methodLink "java/util/Arrays" (150 : Nat) ({ cls := "java/lang/System", name := "arraycopy", desc := "(Ljava/lang/Object;ILjava/lang/Object;II)V" } : Jvm.MethodName)).before a0 Z = true := hw _ (List.mem_of_getElem? (i := 29) rfl)
theorem w_30 {Z : State} {a0 : Array Value} (hw : OW Z a0) : (Jvm.Cond.static ({ cls := "java/lang/System", name := "arraycopy", desc := "(Ljava/lang/Object;ILjava/lang/Object;II)V" } : Jvm.MethodName)).before a0 Z = true := hw _ (List.mem_of_getElem? (i := 30) rfl)
theorem w_31 {Z : State} {a0 : Array Value} (hw : OW Z a0) : (Jvm.Cond.initialized "java/lang/System").before a0 Z = true := hw _ (List.mem_of_getElem? (i := 31) rfl)
theorem w_32 {Z : State} {a0 : Array Value} (hw : OW Z a0) : (Jvm.Cond.native ({ cls := "java/lang/System", name := "arraycopy", desc := "(Ljava/lang/Object;ILjava/lang/Object;II)V" } : Jvm.MethodName)).before a0 Z = true := hw _ (List.mem_of_getElem? (i := 32) rfl)
theorem w_33 {Z : State} {a0 : Array Value} (hw : OW Z a0) : (Jvm.Cond.methodLink "com/example/planwright/planwright/WholeNumbersGetPinLaw" (13 : Nat) ({ cls := "com/example/planwright/planwright/WholeNumbers", name := "add", desc := "(J)V" } : Jvm.MethodName)).before a0 Z = true := hw _ (List.mem_of_getElem? (i := 33) rfl)
theorem w_34 {Z : State} {a0 : Array Value} (hw : OW Z a0) : (Jvm.Cond.declares ({ cls := "com/example/planwright/planwright/WholeNumbers", name := "add", desc := "(J)V" } : Jvm.MethodName)).before a0 Z = true := hw _ (List.mem_of_getElem? (i := 34) rfl)
theorem w_35 {Z : State} {a0 : Array Value} (hw : OW Z a0) : (Jvm.Cond.instanceMethod ({ cls := "com/example/planwright/planwright/WholeNumbers", name := "add", desc := "(J)V" } : Jvm.MethodName)).before a0 Z = true := hw _ (List.mem_of_getElem? (i := 35) rfl)
theorem w_36 {Z : State} {a0 : Array Value} (hw : OW Z a0) : (Jvm.Cond.selects "com/example/planwright/planwright/WholeNumbers" ({ cls := "com/example/planwright/planwright/WholeNumbers", name := "add", desc := "(J)V" } : Jvm.MethodName) ({ cls := "com/example/planwright/planwright/WholeNumbers", name := "add", desc := "(J)V" } : Jvm.MethodName)).before a0 Z = true := hw _ (List.mem_of_getElem? (i := 36) rfl)
theorem w_37 {Z : State} {a0 : Array Value} (hw : OW Z a0) : (Jvm.Cond.code ({ cls := "com/example/planwright/planwright/WholeNumbers", name := "add", desc := "(J)V" } : Jvm.MethodName) prog_5_method_2_code (4 : Nat) (Option.none : Option Jvm.ClassFile.FieldType)).before a0 Z = true := hw _ (List.mem_of_getElem? (i := 37) rfl)
theorem w_38 {Z : State} {a0 : Array Value} (hw : OW Z a0) : (Jvm.Cond.methodLink "com/example/planwright/planwright/WholeNumbers" (21 : Nat) ({ cls := "com/example/planwright/planwright/WholeNumbers", name := "grown", desc := "()I" } : Jvm.MethodName)).before a0 Z = true := hw _ (List.mem_of_getElem? (i := 38) rfl)
theorem w_39 {Z : State} {a0 : Array Value} (hw : OW Z a0) : (Jvm.Cond.instanceMethod ({ cls := "com/example/planwright/planwright/WholeNumbers", name := "grown", desc := "()I" } : Jvm.MethodName)).before a0 Z = true := hw _ (List.mem_of_getElem? (i := 39) rfl)
theorem w_40 {Z : State} {a0 : Array Value} (hw : OW Z a0) : (Jvm.Cond.privateMethod ({ cls := "com/example/planwright/planwright/WholeNumbers", name := "grown", desc := "()I" } : Jvm.MethodName)).before a0 Z = true := hw _ (List.mem_of_getElem? (i := 40) rfl)
theorem w_41 {Z : State} {a0 : Array Value} (hw : OW Z a0) : (Jvm.Cond.code ({ cls := "com/example/planwright/planwright/WholeNumbers", name := "grown", desc := "()I" } : Jvm.MethodName) prog_5_method_6_code (1 : Nat) (Option.some Jvm.ClassFile.FieldType.int)).before a0 Z = true := hw _ (List.mem_of_getElem? (i := 41) rfl)
theorem w_42 {Z : State} {a0 : Array Value} (hw : OW Z a0) : (Jvm.Cond.methodLink "com/example/planwright/planwright/WholeNumbers" (40 : Nat) ({ cls := "java/lang/Math", name := "max", desc := "(II)I" } : Jvm.MethodName)).before a0 Z = true := hw _ (List.mem_of_getElem? (i := 42) rfl)
theorem w_43 {Z : State} {a0 : Array Value} (hw : OW Z a0) : (Jvm.Cond.static ({ cls := "java/lang/Math", name := "max", desc := "(II)I" } : Jvm.MethodName)).before a0 Z = true := hw _ (List.mem_of_getElem? (i := 43) rfl)
theorem w_44 {Z : State} {a0 : Array Value} (hw : OW Z a0) : (Jvm.Cond.code ({ cls := "java/lang/Math", name := "max", desc := "(II)I" } : Jvm.MethodName) jdk_29_method_65_code (2 : Nat) (Option.some Jvm.ClassFile.FieldType.int)).before a0 Z = true := hw _ (List.mem_of_getElem? (i := 44) rfl)
theorem w_45 {Z : State} {a0 : Array Value} (hw : OW Z a0) : (Jvm.Cond.methodLink "com/example/planwright/planwright/WholeNumbersGetPinLaw" (17 : Nat) ({ cls := "com/example/planwright/planwright/WholeNumbers", name := "size", desc := "()I" } : Jvm.MethodName)).before a0 Z = true := hw _ (List.mem_of_getElem? (i := 45) rfl)
theorem w_46 {Z : State} {a0 : Array Value} (hw : OW Z a0) : (Jvm.Cond.declares ({ cls := "com/example/planwright/planwright/WholeNumbers", name := "size", desc := "()I" } : Jvm.MethodName)).before a0 Z = true := hw _ (List.mem_of_getElem? (i := 46) rfl)
theorem w_47 {Z : State} {a0 : Array Value} (hw : OW Z a0) : (Jvm.Cond.instanceMethod ({ cls := "com/example/planwright/planwright/WholeNumbers", name := "size", desc := "()I" } : Jvm.MethodName)).before a0 Z = true := hw _ (List.mem_of_getElem? (i := 47) rfl)
theorem w_48 {Z : State} {a0 : Array Value} (hw : OW Z a0) : (Jvm.Cond.selects "com/example/planwright/planwright/WholeNumbers" ({ cls := "com/example/planwright/planwright/WholeNumbers", name := "size", desc := "()I" } : Jvm.MethodName) ({ cls := "com/example/planwright/planwright/WholeNumbers", name := "size", desc := "()I" } : Jvm.MethodName)).before a0 Z = true := hw _ (List.mem_of_getElem? (i := 48) rfl)
theorem w_49 {Z : State} {a0 : Array Value} (hw : OW Z a0) : (Jvm.Cond.code ({ cls := "com/example/planwright/planwright/WholeNumbers", name := "size", desc := "()I" } : Jvm.MethodName) prog_5_method_4_code (1 : Nat) (Option.some Jvm.ClassFile.FieldType.int)).before a0 Z = true := hw _ (List.mem_of_getElem? (i := 49) rfl)
theorem w_50 {Z : State} {a0 : Array Value} (hw : OW Z a0) : (Jvm.Cond.methodLink "com/example/planwright/planwright/WholeNumbersGetPinLaw" (21 : Nat) ({ cls := "com/example/planwright/planwright/WholeNumbers", name := "get", desc := "(I)J" } : Jvm.MethodName)).before a0 Z = true := hw _ (List.mem_of_getElem? (i := 50) rfl)
theorem w_51 {Z : State} {a0 : Array Value} (hw : OW Z a0) : (Jvm.Cond.declares ({ cls := "com/example/planwright/planwright/WholeNumbers", name := "get", desc := "(I)J" } : Jvm.MethodName)).before a0 Z = true := hw _ (List.mem_of_getElem? (i := 51) rfl)
theorem w_52 {Z : State} {a0 : Array Value} (hw : OW Z a0) : (Jvm.Cond.instanceMethod ({ cls := "com/example/planwright/planwright/WholeNumbers", name := "get", desc := "(I)J" } : Jvm.MethodName)).before a0 Z = true := hw _ (List.mem_of_getElem? (i := 52) rfl)
theorem w_53 {Z : State} {a0 : Array Value} (hw : OW Z a0) : (Jvm.Cond.selects "com/example/planwright/planwright/WholeNumbers" ({ cls := "com/example/planwright/planwright/WholeNumbers", name := "get", desc := "(I)J" } : Jvm.MethodName) ({ cls := "com/example/planwright/planwright/WholeNumbers", name := "get", desc := "(I)J" } : Jvm.MethodName)).before a0 Z = true := hw _ (List.mem_of_getElem? (i := 53) rfl)
theorem w_54 {Z : State} {a0 : Array Value} (hw : OW Z a0) : (Jvm.Cond.code ({ cls := "com/example/planwright/planwright/WholeNumbers", name := "get", desc := "(I)J" } : Jvm.MethodName) prog_5_method_3_code (2 : Nat) (Option.some Jvm.ClassFile.FieldType.long)).before a0 Z = true := hw _ (List.mem_of_getElem? (i := 54) rfl)
theorem w_55 {Z : State} {a0 : Array Value} (hw : OW Z a0) : (Jvm.Cond.methodLink "com/example/planwright/planwright/WholeNumbers" (34 : Nat) ({ cls := "java/util/Objects", name := "checkIndex", desc := "(II)I" } : Jvm.MethodName)).before a0 Z = true := hw _ (List.mem_of_getElem? (i := 55) rfl)
theorem w_56 {Z : State} {a0 : Array Value} (hw : OW Z a0) : (Jvm.Cond.static ({ cls := "java/util/Objects", name := "checkIndex", desc := "(II)I" } : Jvm.MethodName)).before a0 Z = true := hw _ (List.mem_of_getElem? (i := 56) rfl)
theorem w_57 {Z : State} {a0 : Array Value} (hw : OW Z a0) : (Jvm.Cond.initialized "java/util/Objects").before a0 Z = true := hw _ (List.mem_of_getElem? (i := 57) rfl)
theorem w_58 {Z : State} {a0 : Array Value} (hw : OW Z a0) : (Jvm.Cond.code ({ cls := "java/util/Objects", name := "checkIndex", desc := "(II)I" } : Jvm.MethodName) jdk_31_method_17_code (2 : Nat) (Option.some Jvm.ClassFile.FieldType.int)).before a0 Z = true := hw _ (List.mem_of_getElem? (i := 58) rfl)
theorem w_59 {Z : State} {a0 : Array Value} (hw : OW Z a0) : (Jvm.Cond.methodLink "java/util/Objects" (105 : Nat) ({ cls := "jdk/internal/util/Preconditions", name := "checkIndex", desc := "(IILjava/util/function/BiFunction;)I" } : Jvm.MethodName)).before a0 Z = true := hw _ (List.mem_of_getElem? (i := 59) rfl)
theorem w_60 {Z : State} {a0 : Array Value} (hw : OW Z a0) : (Jvm.Cond.static ({ cls := "jdk/internal/util/Preconditions", name := "checkIndex", desc := "(IILjava/util/function/BiFunction;)I" } : Jvm.MethodName)).before a0 Z = true := hw _ (List.mem_of_getElem? (i := 60) rfl)
theorem w_61 {Z : State} {a0 : Array Value} (hw : OW Z a0) : (Jvm.Cond.initialized "jdk/internal/util/Preconditions").before a0 Z = true := hw _ (List.mem_of_getElem? (i := 61) rfl)
theorem w_62 {Z : State} {a0 : Array Value} (hw : OW Z a0) : (Jvm.Cond.code ({ cls := "jdk/internal/util/Preconditions", name := "checkIndex", desc := "(IILjava/util/function/BiFunction;)I" } : Jvm.MethodName) jdk_41_method_11_code (3 : Nat) (Option.some Jvm.ClassFile.FieldType.int)).before a0 Z = true := hw _ (List.mem_of_getElem? (i := 62) rfl)
theorem w_63 {Z : State} {a0 : Array Value} (hw : OW Z a0) : (Jvm.Cond.arrayClass Jvm.ClassFile.FieldType.long).before a0 Z = true := hw _ (List.mem_of_getElem? (i := 63) rfl)
theorem w_64 {Z : State} {a0 : Array Value} (hw : OW Z a0) : (Jvm.Cond.methodLink "com/example/planwright/planwright/WholeNumbers" (31 : Nat) ({ cls := "java/util/Arrays", name := "copyOf", desc := "([JI)[J" } : Jvm.MethodName)).before a0 Z = true := hw _ (List.mem_of_getElem? (i := 64) rfl)
theorem w_65 {Z : State} {a0 : Array Value} (hw : OW Z a0) : (Jvm.Cond.static ({ cls := "java/util/Arrays", name := "copyOf", desc := "([JI)[J" } : Jvm.MethodName)).before a0 Z = true := hw _ (List.mem_of_getElem? (i := 65) rfl)
theorem w_66 {Z : State} {a0 : Array Value} (hw : OW Z a0) : (Jvm.Cond.code ({ cls := "java/util/Arrays", name := "copyOf", desc := "([JI)[J" } : Jvm.MethodName) jdk_65_method_124_code (3 : Nat) (Option.some (Jvm.ClassFile.FieldType.array Jvm.ClassFile.FieldType.long))).before a0 Z = true := hw _ (List.mem_of_getElem? (i := 66) rfl)
def own_min (x y : Int32) : Int32 := if x.toInt ≤ y.toInt then x else y
def own_max (x y : Int32) : Int32 := if x.toInt < y.toInt then y else x
def own_WI (Z : State) (h : Heap) (n0 : Nat) (b : Addr) (n : Nat) (g : Nat → Int64) (len : Nat) : Prop := ∃ (ar : Addr) (f : Nat → Int32) (sz : Int32), n0 ≤ ar ∧ ar ≠ b ∧ sz.toInt = n ∧ Exa Z h b "com/example/planwright/planwright/WholeNumbers" ∧ Fld Z h b "com/example/planwright/planwright/WholeNumbers" "size" "I" (.int sz) ∧ Fld Z h b "com/example/planwright/planwright/WholeNumbers" "longs" "[J" .null ∧ Fld Z h b "com/example/planwright/planwright/WholeNumbers" "ints" "[I" (.ref ar) ∧ OAr Z h ar .int len (fun j => .int (f j)) ∧ ∀ j, j < n → (f j).toInt64 = g j
def own_WL (Z : State) (h : Heap) (n0 : Nat) (b : Addr) (n : Nat) (g : Nat → Int64) (len : Nat) : Prop := ∃ (ar : Addr) (f : Nat → Int64) (sz : Int32), n0 ≤ ar ∧ ar ≠ b ∧ sz.toInt = n ∧ Exa Z h b "com/example/planwright/planwright/WholeNumbers" ∧ Fld Z h b "com/example/planwright/planwright/WholeNumbers" "size" "I" (.int sz) ∧ Fld Z h b "com/example/planwright/planwright/WholeNumbers" "ints" "[I" .null ∧ Fld Z h b "com/example/planwright/planwright/WholeNumbers" "longs" "[J" (.ref ar) ∧ OAr Z h ar .long len (fun j => .long (f j)) ∧ ∀ j, j < n → f j = g j
/-- a list of whole numbers: n of them, g says which; len: the length of the array behind it -/
def own_W (Z : State) (h : Heap) (n0 : Nat) (b : Addr) (n : Nat) (g : Nat → Int64) (len : Nat) : Prop := n0 ≤ h.size ∧ (own_WI Z h n0 b n g len ∨ own_WL Z h n0 b n g len)
theorem own_W.exa {Z : State} {h : Heap} {n0 : Nat} {b : Addr} {n : Nat} {g : Nat → Int64} {len : Nat} (W : own_W Z h n0 b n g len) : Exa Z h b "com/example/planwright/planwright/WholeNumbers" := by
  rcases W.2 with ⟨ar, f, sz, -, -, -, E, -⟩ | ⟨ar, f, sz, -, -, -, E, -⟩ <;> exact E
theorem d5_0 : decode jdk_29_method_69_code 0 = .ok (.iload_n 0, 1) := by decide +kernel
theorem d5_1 : decode jdk_29_method_69_code 1 = .ok (.iload_n 1, 1) := by decide +kernel
theorem d5_2 : decode jdk_29_method_69_code 2 = .ok (.if_icmp .gt 7, 3) := by decide +kernel
theorem d5_9 : decode jdk_29_method_69_code 9 = .ok (.iload_n 1, 1) := by decide +kernel
theorem d5_10 : decode jdk_29_method_69_code 10 = .ok (.ireturn, 1) := by decide +kernel
theorem d5_5 : decode jdk_29_method_69_code 5 = .ok (.iload_n 0, 1) := by decide +kernel
theorem d5_6 : decode jdk_29_method_69_code 6 = .ok (.goto 4, 3) := by decide +kernel
theorem pn_5 : plainFor (⟨"java/lang/Math", "min", "(II)I"⟩ : MethodName) = true := Jvm.Free.JP.mathPlain rfl (by decide +kernel)
set_option maxHeartbeats 4000000 in
theorem c_min (l : Launch) (Z : State) (a0 : Array Value) (hw : OW Z a0) (n0 : Nat) (x1 x2 : Int32) (h0 : Heap) (Z0 : n0 ≤ h0.size) :
    OCon l Z n0 (⟨"java/lang/Math", "min", "(II)I"⟩ : MethodName) jdk_29_method_69_code 2 (some .int) ({ frames := 0, cells := 0, slots := 0, locals := 0 } : Room) #[(.int x1), (.int x2)] h0 (fun v h => v = some (.int (own_min x1 x2)) ∧ h = h0) := by
  refine OCon.of (Ls := #[.val (.int x1), .val (.int x2)]) pn_5 rfl rfl (fun m => by first | (simp [entryFrame, mkF, argsToLocals, Value.category]; done) | rfl) ?_
  intro p e s m below meth c T0 X0 K e0
  have N0 := Fr.nil n0
  refine o_iloadN X0 K d5_0 1 rfl rfl ?_
  refine o_iloadN X0 K d5_1 2 rfl rfl ?_
  refine o_icmp_gt X0 K d5_2 9 (by decide) (by decide) 5 rfl (fun hc2 => ?_) (fun hc2 => ?_)
  · refine o_iloadN X0 K d5_9 10 rfl rfl ?_
    refine o_ireturn X0 K d5_10 (by decide) (by decide) N0 ?_
    exact ⟨by rw [own_min, if_neg (by omega)], e0⟩
  · refine o_iloadN X0 K d5_5 6 rfl rfl ?_
    refine o_goto X0 K d5_6 10 (by decide) (by decide) ?_
    refine o_ireturn X0 K d5_10 (by decide) (by decide) N0 ?_
    exact ⟨by rw [own_min, if_pos (by omega)], e0⟩
theorem d8_0 : decode jdk_29_method_65_code 0 = .ok (.iload_n 0, 1) := by decide +kernel
theorem d8_1 : decode jdk_29_method_65_code 1 = .ok (.iload_n 1, 1) := by decide +kernel
theorem d8_2 : decode jdk_29_method_65_code 2 = .ok (.if_icmp .lt 7, 3) := by decide +kernel
theorem d8_9 : decode jdk_29_method_65_code 9 = .ok (.iload_n 1, 1) := by decide +kernel
theorem d8_10 : decode jdk_29_method_65_code 10 = .ok (.ireturn, 1) := by decide +kernel
theorem d8_5 : decode jdk_29_method_65_code 5 = .ok (.iload_n 0, 1) := by decide +kernel
theorem d8_6 : decode jdk_29_method_65_code 6 = .ok (.goto 4, 3) := by decide +kernel
theorem pn_8 : plainFor (⟨"java/lang/Math", "max", "(II)I"⟩ : MethodName) = true := Jvm.Free.JP.mathPlain rfl (by decide +kernel)
set_option maxHeartbeats 4000000 in
theorem c_max (l : Launch) (Z : State) (a0 : Array Value) (hw : OW Z a0) (n0 : Nat) (x1 x2 : Int32) (h0 : Heap) (Z0 : n0 ≤ h0.size) :
    OCon l Z n0 (⟨"java/lang/Math", "max", "(II)I"⟩ : MethodName) jdk_29_method_65_code 2 (some .int) ({ frames := 0, cells := 0, slots := 0, locals := 0 } : Room) #[(.int x1), (.int x2)] h0 (fun v h => v = some (.int (own_max x1 x2)) ∧ h = h0) := by
  refine OCon.of (Ls := #[.val (.int x1), .val (.int x2)]) pn_8 rfl rfl (fun m => by first | (simp [entryFrame, mkF, argsToLocals, Value.category]; done) | rfl) ?_
  intro p e s m below meth c T0 X0 K e0
  have N0 := Fr.nil n0
  refine o_iloadN X0 K d8_0 1 rfl rfl ?_
  refine o_iloadN X0 K d8_1 2 rfl rfl ?_
  refine o_icmp_lt X0 K d8_2 9 (by decide) (by decide) 5 rfl (fun hc2 => ?_) (fun hc2 => ?_)
  · refine o_iloadN X0 K d8_9 10 rfl rfl ?_
    refine o_ireturn X0 K d8_10 (by decide) (by decide) N0 ?_
    exact ⟨by rw [own_max, if_pos (by omega)], e0⟩
  · refine o_iloadN X0 K d8_5 6 rfl rfl ?_
    refine o_goto X0 K d8_6 10 (by decide) (by decide) ?_
    refine o_ireturn X0 K d8_10 (by decide) (by decide) N0 ?_
    exact ⟨by rw [own_max, if_neg (by omega)], e0⟩
theorem d4_0 : decode jdk_65_method_123_code 0 = .ok (.iload_n 1, 1) := by decide +kernel
theorem d4_1 : decode jdk_65_method_123_code 1 = .ok (.aload_n 0, 1) := by decide +kernel
theorem d4_2 : decode jdk_65_method_123_code 2 = .ok (.arraylength, 1) := by decide +kernel
theorem d4_3 : decode jdk_65_method_123_code 3 = .ok (.if_icmp .ne 11, 3) := by decide +kernel
theorem d4_14 : decode jdk_65_method_123_code 14 = .ok (.iload_n 1, 1) := by decide +kernel
theorem d4_15 : decode jdk_65_method_123_code 15 = .ok (.newarray .int, 2) := by decide +kernel
theorem d4_17 : decode jdk_65_method_123_code 17 = .ok (.astore_n 2, 1) := by decide +kernel
theorem d4_18 : decode jdk_65_method_123_code 18 = .ok (.aload_n 0, 1) := by decide +kernel
theorem d4_19 : decode jdk_65_method_123_code 19 = .ok (.iconst 0, 1) := by decide +kernel
theorem d4_20 : decode jdk_65_method_123_code 20 = .ok (.aload_n 2, 1) := by decide +kernel
theorem d4_21 : decode jdk_65_method_123_code 21 = .ok (.iconst 0, 1) := by decide +kernel
theorem d4_22 : decode jdk_65_method_123_code 22 = .ok (.aload_n 0, 1) := by decide +kernel
theorem d4_23 : decode jdk_65_method_123_code 23 = .ok (.arraylength, 1) := by decide +kernel
theorem d4_24 : decode jdk_65_method_123_code 24 = .ok (.iload_n 1, 1) := by decide +kernel
theorem d4_25 : decode jdk_65_method_123_code 25 = .ok (.invokestatic 304, 3) := by decide +kernel
theorem pd__II_I : parseMethodDescriptor "(II)I" = some ⟨[.int, .int], some .int⟩ := by decide +kernel
theorem d4_28 : decode jdk_65_method_123_code 28 = .ok (.invokestatic 150, 3) := by decide +kernel
theorem d4_31 : decode jdk_65_method_123_code 31 = .ok (.aload_n 2, 1) := by decide +kernel
theorem d4_32 : decode jdk_65_method_123_code 32 = .ok (.areturn, 1) := by decide +kernel
theorem pn_4 : plainFor (⟨"java/util/Arrays", "copyOf", "([II)[I"⟩ : MethodName) = true := plainFor_of_name (by first | (simp [plainName, overriddenIn]; done) | decide +kernel)
set_option maxHeartbeats 4000000 in
theorem c_copyI (l : Launch) (Z : State) (a0 : Array Value) (hw : OW Z a0) (n0 : Nat) (a : Addr) (n kn : Nat) (f : Nat → Int32) (zl k : Int32) (hzl : zl.toInt = n) (hk : k.toInt = kn) (h0 : Heap) (Z0 : n0 ≤ h0.size) (A_a : OAr Z h0 a .int n (fun j => .int (f j))) (hne : ¬ kn = n ∧ kn ≤ 3) :
    OCon l Z n0 (⟨"java/util/Arrays", "copyOf", "([II)[I"⟩ : MethodName) jdk_65_method_123_code 3 (some (.array .int)) ({ frames := 1, cells := 1, slots := 3, locals := 60 } : Room) #[(.ref a), (.int k)] h0 (fun v h => ∃ b : Addr, v = some (.ref b) ∧ Keep h0 h [] ∧ n0 ≤ b ∧ h0.size ≤ b ∧ OAr Z h b .int kn (fun q => if q < kn ∧ q < n then (.int (f q)) else (.int 0))) := by
  refine OCon.of (Ls := #[.val (.ref a), .val (.int k), .unset]) pn_4 rfl rfl (fun m => by first | (simp [entryFrame, mkF, argsToLocals, Value.category]; done) | rfl) ?_
  intro p e s m below meth c T0 X0 K e0
  have N0 := Fr.nil n0
  have KK0 := Keep.refl h0 []
  refine o_iloadN X0 K d4_0 1 rfl rfl ?_
  refine o_aloadN X0 K d4_1 2 rfl rfl rfl ?_
  refine o_arraylength X0 K d4_2 3 rfl e0 A_a (v := zl) (hzl) ?_
  refine o_icmp_ne_t X0 K d4_3 14 (by decide) (by decide) (fun z => hne.1 (by rw [z] at hk; omega)) ?_
  refine o_iloadN X0 K d4_14 15 rfl rfl ?_
  refine o_newarray X0 K (n := kn) d4_15 17 rfl (w_9 hw) e0 (hk) 3 (hne.2) (by decide) (by decide) (by decide) rfl ?_
  intro T_1 h_1 b g_1 X_1 e_1 E_1 A_1
  dsimp only [newarray.typeOf, defaultValue] at A_1
  have Z_1 : n0 ≤ h_1.size := Nat.le_trans Z0 E_1.1
  have K_1 := KK0.ext E_1
  have f_2 := A_a.ext E_1
  have g_b : n0 ≤ b := by rw [g_1]; exact Z0
  have ne_a_b : a ≠ b := by rw [g_1]; exact Nat.ne_of_lt A_a.lt
  have sz_b : h0.size ≤ b := by rw [g_1]; exact KK0.1
  refine o_astoreN X_1 K d4_17 18 rfl #[.val (.ref a), .val (.int k), .val (.ref b)] rfl rfl ?_
  refine o_aloadN X_1 K d4_18 19 rfl rfl rfl ?_
  refine o_iconst X_1 K (0 : Int32) d4_19 20 rfl rfl ?_
  refine o_aloadN X_1 K d4_20 21 rfl rfl rfl ?_
  refine o_iconst X_1 K (0 : Int32) d4_21 22 rfl rfl ?_
  refine o_aloadN X_1 K d4_22 23 rfl rfl rfl ?_
  refine o_arraylength X_1 K d4_23 24 rfl e_1 f_2 (v := zl) (hzl) ?_
  refine o_iloadN X_1 K d4_24 25 rfl rfl ?_
  refine o_invokestatic X_1 K d4_25 28 rfl (w_25 hw) (w_26 hw) (w_27 hw) (w_28 hw) (by decide) [(.int zl), (.int k)] [(.int (0 : Int32)), (.ref b), (.int (0 : Int32)), (.ref a)] rfl  (c_min l Z a0 hw n0 zl k h_1 Z_1 ) e_1 rfl (lenOf pd__II_I rfl) (by decide) 4 (Nat.le_of_eq rfl) (by decide) (by decide) (by decide) N0 ?_
  rintro _ T_3 h_3 locs_3 X_3 q_3 ⟨rfl, r_3⟩ N_3
  have e_3 := q_3.trans r_3
  show OGo p e below s n0 _ _ _ (T_3.setTop (mkF m 28 #[.val (.ref a), .val (.int k), .val (.ref b)] [(.int (own_min zl k)), (.int (0 : Int32)), (.ref b), (.int (0 : Int32)), (.ref a)]))
  refine o_arraycopy X_3 K (i := 0) (j := 0) (k := (min n kn)) d4_28 31 rfl (w_29 hw) (w_32 hw) (w_30 hw) (w_31 hw) e_3 f_2 A_1 rfl (by decide) (by decide) (by rw [own_min]; split <;> omega) (by omega) (by omega) N_3 g_b rfl (by decide) 0 (Nat.le_of_eq rfl) (by decide) ?_
  intro T_4 h_4 locs_4 X_4 e_4 k_4 A_4 N_4
  have Z_4 : n0 ≤ h_4.size := Nat.le_trans Z_1 k_4.1
  have K_4 := K_1.trans k_4 (allS (Or.inr sz_b) (all0))
  have f_5 := f_2.keep k_4 (ninS ne_a_b (nin0))
  refine o_aloadN X_4 K d4_31 32 rfl rfl rfl ?_
  refine o_areturn X_4 K rfl rfl rfl d4_32 (by decide) (by decide) N_4 ?_
  rw [e_4]
  refine ⟨b, rfl, K_4, g_b, sz_b, A_4.congr (fun q hq => ?_)⟩
  by_cases hq2 : q < n
  · rw [if_pos (by omega), if_pos ⟨hq, hq2⟩]; simp
  · rw [if_neg (by omega), if_neg (fun z => hq2 z.2)]
theorem d13_0 : decode jdk_65_method_124_code 0 = .ok (.iload_n 1, 1) := by decide +kernel
theorem d13_1 : decode jdk_65_method_124_code 1 = .ok (.aload_n 0, 1) := by decide +kernel
theorem d13_2 : decode jdk_65_method_124_code 2 = .ok (.arraylength, 1) := by decide +kernel
theorem d13_3 : decode jdk_65_method_124_code 3 = .ok (.if_icmp .ne 11, 3) := by decide +kernel
theorem d13_14 : decode jdk_65_method_124_code 14 = .ok (.iload_n 1, 1) := by decide +kernel
theorem d13_15 : decode jdk_65_method_124_code 15 = .ok (.newarray .long, 2) := by decide +kernel
theorem d13_17 : decode jdk_65_method_124_code 17 = .ok (.astore_n 2, 1) := by decide +kernel
theorem d13_18 : decode jdk_65_method_124_code 18 = .ok (.aload_n 0, 1) := by decide +kernel
theorem d13_19 : decode jdk_65_method_124_code 19 = .ok (.iconst 0, 1) := by decide +kernel
theorem d13_20 : decode jdk_65_method_124_code 20 = .ok (.aload_n 2, 1) := by decide +kernel
theorem d13_21 : decode jdk_65_method_124_code 21 = .ok (.iconst 0, 1) := by decide +kernel
theorem d13_22 : decode jdk_65_method_124_code 22 = .ok (.aload_n 0, 1) := by decide +kernel
theorem d13_23 : decode jdk_65_method_124_code 23 = .ok (.arraylength, 1) := by decide +kernel
theorem d13_24 : decode jdk_65_method_124_code 24 = .ok (.iload_n 1, 1) := by decide +kernel
theorem d13_25 : decode jdk_65_method_124_code 25 = .ok (.invokestatic 304, 3) := by decide +kernel
theorem d13_28 : decode jdk_65_method_124_code 28 = .ok (.invokestatic 150, 3) := by decide +kernel
theorem d13_31 : decode jdk_65_method_124_code 31 = .ok (.aload_n 2, 1) := by decide +kernel
theorem d13_32 : decode jdk_65_method_124_code 32 = .ok (.areturn, 1) := by decide +kernel
theorem pn_13 : plainFor (⟨"java/util/Arrays", "copyOf", "([JI)[J"⟩ : MethodName) = true := plainFor_of_name (by first | (simp [plainName, overriddenIn]; done) | decide +kernel)
set_option maxHeartbeats 4000000 in
theorem c_copyJ (l : Launch) (Z : State) (a0 : Array Value) (hw : OW Z a0) (n0 : Nat) (a : Addr) (n kn : Nat) (f : Nat → Int64) (zl k : Int32) (hzl : zl.toInt = n) (hk : k.toInt = kn) (h0 : Heap) (Z0 : n0 ≤ h0.size) (A_a : OAr Z h0 a .long n (fun j => .long (f j))) (hne : ¬ kn = n ∧ kn ≤ 3) :
    OCon l Z n0 (⟨"java/util/Arrays", "copyOf", "([JI)[J"⟩ : MethodName) jdk_65_method_124_code 3 (some (.array .long)) ({ frames := 1, cells := 1, slots := 3, locals := 60 } : Room) #[(.ref a), (.int k)] h0 (fun v h => ∃ b : Addr, v = some (.ref b) ∧ Keep h0 h [] ∧ n0 ≤ b ∧ h0.size ≤ b ∧ OAr Z h b .long kn (fun q => if q < kn ∧ q < n then (.long (f q)) else (.long 0))) := by
  refine OCon.of (Ls := #[.val (.ref a), .val (.int k), .unset]) pn_13 rfl rfl (fun m => by first | (simp [entryFrame, mkF, argsToLocals, Value.category]; done) | rfl) ?_
  intro p e s m below meth c T0 X0 K e0
  have N0 := Fr.nil n0
  have KK0 := Keep.refl h0 []
  refine o_iloadN X0 K d13_0 1 rfl rfl ?_
  refine o_aloadN X0 K d13_1 2 rfl rfl rfl ?_
  refine o_arraylength X0 K d13_2 3 rfl e0 A_a (v := zl) (hzl) ?_
  refine o_icmp_ne_t X0 K d13_3 14 (by decide) (by decide) (fun z => hne.1 (by rw [z] at hk; omega)) ?_
  refine o_iloadN X0 K d13_14 15 rfl rfl ?_
  refine o_newarray X0 K (n := kn) d13_15 17 rfl (w_63 hw) e0 (hk) 3 (hne.2) (by decide) (by decide) (by decide) rfl ?_
  intro T_6 h_6 b g_6 X_6 e_6 E_6 A_6
  dsimp only [newarray.typeOf, defaultValue] at A_6
  have Z_6 : n0 ≤ h_6.size := Nat.le_trans Z0 E_6.1
  have K_6 := KK0.ext E_6
  have f_7 := A_a.ext E_6
  have g_b : n0 ≤ b := by rw [g_6]; exact Z0
  have ne_a_b : a ≠ b := by rw [g_6]; exact Nat.ne_of_lt A_a.lt
  have sz_b : h0.size ≤ b := by rw [g_6]; exact KK0.1
  refine o_astoreN X_6 K d13_17 18 rfl #[.val (.ref a), .val (.int k), .val (.ref b)] rfl rfl ?_
  refine o_aloadN X_6 K d13_18 19 rfl rfl rfl ?_
  refine o_iconst X_6 K (0 : Int32) d13_19 20 rfl rfl ?_
  refine o_aloadN X_6 K d13_20 21 rfl rfl rfl ?_
  refine o_iconst X_6 K (0 : Int32) d13_21 22 rfl rfl ?_
  refine o_aloadN X_6 K d13_22 23 rfl rfl rfl ?_
  refine o_arraylength X_6 K d13_23 24 rfl e_6 f_7 (v := zl) (hzl) ?_
  refine o_iloadN X_6 K d13_24 25 rfl rfl ?_
  refine o_invokestatic X_6 K d13_25 28 rfl (w_25 hw) (w_26 hw) (w_27 hw) (w_28 hw) (by decide) [(.int zl), (.int k)] [(.int (0 : Int32)), (.ref b), (.int (0 : Int32)), (.ref a)] rfl  (c_min l Z a0 hw n0 zl k h_6 Z_6 ) e_6 rfl (lenOf pd__II_I rfl) (by decide) 4 (Nat.le_of_eq rfl) (by decide) (by decide) (by decide) N0 ?_
  rintro _ T_8 h_8 locs_8 X_8 q_8 ⟨rfl, r_8⟩ N_8
  have e_8 := q_8.trans r_8
  show OGo p e below s n0 _ _ _ (T_8.setTop (mkF m 28 #[.val (.ref a), .val (.int k), .val (.ref b)] [(.int (own_min zl k)), (.int (0 : Int32)), (.ref b), (.int (0 : Int32)), (.ref a)]))
  refine o_arraycopy X_8 K (i := 0) (j := 0) (k := (min n kn)) d13_28 31 rfl (w_29 hw) (w_32 hw) (w_30 hw) (w_31 hw) e_8 f_7 A_6 rfl (by decide) (by decide) (by rw [own_min]; split <;> omega) (by omega) (by omega) N_8 g_b rfl (by decide) 0 (Nat.le_of_eq rfl) (by decide) ?_
  intro T_9 h_9 locs_9 X_9 e_9 k_9 A_9 N_9
  have Z_9 : n0 ≤ h_9.size := Nat.le_trans Z_6 k_9.1
  have K_9 := K_6.trans k_9 (allS (Or.inr sz_b) (all0))
  have f_10 := f_7.keep k_9 (ninS ne_a_b (nin0))
  refine o_aloadN X_9 K d13_31 32 rfl rfl rfl ?_
  refine o_areturn X_9 K rfl rfl rfl d13_32 (by decide) (by decide) N_9 ?_
  rw [e_9]
  refine ⟨b, rfl, K_9, g_b, sz_b, A_9.congr (fun q hq => ?_)⟩
  by_cases hq2 : q < n
  · rw [if_pos (by omega), if_pos ⟨hq, hq2⟩]; simp
  · rw [if_neg (by omega), if_neg (fun z => hq2 z.2)]
theorem d7_0 : decode prog_5_method_6_code 0 = .ok (.aload_n 0, 1) := by decide +kernel
theorem d7_1 : decode prog_5_method_6_code 1 = .ok (.getfield 17, 3) := by decide +kernel
theorem d7_4 : decode prog_5_method_6_code 4 = .ok (.iconst 1, 1) := by decide +kernel
theorem d7_5 : decode prog_5_method_6_code 5 = .ok (.aload_n 0, 1) := by decide +kernel
theorem d7_6 : decode prog_5_method_6_code 6 = .ok (.getfield 17, 3) := by decide +kernel
theorem d7_9 : decode prog_5_method_6_code 9 = .ok (.iconst 1, 1) := by decide +kernel
theorem d7_10 : decode prog_5_method_6_code 10 = .ok (.ishr, 1) := by decide +kernel
theorem d7_11 : decode prog_5_method_6_code 11 = .ok (.invokestatic 40, 3) := by decide +kernel
theorem d7_14 : decode prog_5_method_6_code 14 = .ok (.iadd, 1) := by decide +kernel
theorem d7_15 : decode prog_5_method_6_code 15 = .ok (.ireturn, 1) := by decide +kernel
theorem pn_7 : plainFor (⟨"com/example/planwright/planwright/WholeNumbers", "grown", "()I"⟩ : MethodName) = true := plainFor_of_name (by first | (simp [plainName, overriddenIn]; done) | decide +kernel)
set_option maxHeartbeats 4000000 in
theorem c_grown (l : Launch) (Z : State) (a0 : Array Value) (hw : OW Z a0) (n0 : Nat) (b : Addr) (sz : Int32) (h0 : Heap) (Z0 : n0 ≤ h0.size) (F_b_size : Fld Z h0 b "com/example/planwright/planwright/WholeNumbers" "size" "I" (.int sz)) (hz : 0 ≤ sz.toInt ∧ sz.toInt ≤ 2) :
    OCon l Z n0 (⟨"com/example/planwright/planwright/WholeNumbers", "grown", "()I"⟩ : MethodName) prog_5_method_6_code 1 (some .int) ({ frames := 1, cells := 0, slots := 0, locals := 20 } : Room) #[(.ref b)] h0 (fun v h => ∃ r : Int32, v = some (.int r) ∧ r.toInt = sz.toInt + 1 ∧ h = h0) := by
  refine OCon.of (Ls := #[.val (.ref b)]) pn_7 rfl rfl (fun m => by first | (simp [entryFrame, mkF, argsToLocals, Value.category]; done) | rfl) ?_
  intro p e s m below meth c T0 X0 K e0
  have N0 := Fr.nil n0
  refine o_aloadN X0 K d7_0 1 rfl rfl rfl ?_
  refine o_getfield X0 K (host := "") d7_1 4 rfl (Or.inl (w_19 hw)) Via.refl e0 F_b_size ?_
  intro T_11 X_11 e_11
  refine o_iconst X_11 K (1 : Int32) d7_4 5 rfl rfl ?_
  refine o_aloadN X_11 K d7_5 6 rfl rfl rfl ?_
  refine o_getfield X_11 K (host := "") d7_6 9 rfl (Or.inl (w_19 hw)) Via.refl e_11 F_b_size ?_
  intro T_12 X_12 e_12
  refine o_iconst X_12 K (1 : Int32) d7_9 10 rfl rfl ?_
  refine o_ishr X_12 K d7_10 11 rfl ?_
  refine o_invokestatic X_12 K d7_11 14 rfl (w_42 hw) (w_43 hw) (w_27 hw) (w_44 hw) (by decide) [(.int (1 : Int32)), (.int (sz >>> ((1 : Int32) &&& 31)))] [(.int sz)] rfl  (c_max l Z a0 hw n0 (1 : Int32) (sz >>> ((1 : Int32) &&& 31)) h0 Z0 ) e_12 rfl (lenOf pd__II_I rfl) (by decide) 1 (Nat.le_of_eq rfl) (by decide) (by decide) (by decide) N0 ?_
  rintro _ T_13 h_13 locs_13 X_13 q_13 ⟨rfl, r_13⟩ N_13
  have e_13 := q_13.trans r_13
  show OGo p e below s n0 _ _ _ (T_13.setTop (mkF m 14 #[.val (.ref b)] [(.int (own_max (1 : Int32) (sz >>> ((1 : Int32) &&& 31)))), (.int sz)]))
  refine o_iadd X_13 K d7_14 15 rfl ?_
  refine o_ireturn X_13 K d7_15 (by decide) (by decide) N_13 ?_
  refine ⟨_, rfl, ?_, e_13⟩
  have q1 : (sz >>> ((1 : Int32) &&& 31)).toInt = sz.toInt / 2 := c_ishr sz 1 1 (by decide)
  have l1 : (1 : Int32).toInt = 1 := rfl
  have q2 : own_max 1 (sz >>> ((1 : Int32) &&& 31)) = 1 := by rw [own_max, if_neg (by omega)]
  rw [q2]
  have q3 := c_iadd sz 1
  have q4 := rng32 (sz + 1)
  omega
theorem d1_0 : decode prog_5_method_1_code 0 = .ok (.aload_n 0, 1) := by decide +kernel
theorem d1_1 : decode prog_5_method_1_code 1 = .ok (.invokespecial 1, 3) := by decide +kernel
theorem d1_4 : decode prog_5_method_1_code 4 = .ok (.aload_n 0, 1) := by decide +kernel
theorem d1_5 : decode prog_5_method_1_code 5 = .ok (.bipush 64, 2) := by decide +kernel
theorem d1_7 : decode prog_5_method_1_code 7 = .ok (.newarray .int, 2) := by decide +kernel
theorem d1_9 : decode prog_5_method_1_code 9 = .ok (.putfield 9, 3) := by decide +kernel
theorem d1_12 : decode prog_5_method_1_code 12 = .ok (.return_, 1) := by decide +kernel
theorem pn_1 : plainFor (⟨"com/example/planwright/planwright/WholeNumbers", "<init>", "()V"⟩ : MethodName) = true := plainFor_of_name (by first | (simp [plainName, overriddenIn]; done) | decide +kernel)
set_option maxHeartbeats 4000000 in
theorem c_init (l : Launch) (Z : State) (a0 : Array Value) (hw : OW Z a0) (n0 : Nat) (b : Addr) (h0 : Heap) (Z0 : n0 ≤ h0.size) (E_b : Exa Z h0 b "com/example/planwright/planwright/WholeNumbers") (F_b_size : Fld Z h0 b "com/example/planwright/planwright/WholeNumbers" "size" "I" (.int (0 : Int32))) (F_b_longs : Fld Z h0 b "com/example/planwright/planwright/WholeNumbers" "longs" "[J" .null) (F_b_ints : Fld Z h0 b "com/example/planwright/planwright/WholeNumbers" "ints" "[I" .null) (g_b : n0 ≤ b) :
    OCon l Z n0 (⟨"com/example/planwright/planwright/WholeNumbers", "<init>", "()V"⟩ : MethodName) prog_5_method_1_code 1 none ({ frames := 1, cells := 1, slots := 64, locals := 12 } : Room) #[(.ref b)] h0 (fun v h => v = none ∧ own_W Z h n0 b 0 (fun _ => 0) 64) := by
  refine OCon.of (Ls := #[.val (.ref b)]) pn_1 rfl rfl (fun m => by first | (simp [entryFrame, mkF, argsToLocals, Value.category]; done) | rfl) ?_
  intro p e s m below meth c T0 X0 K e0
  have N0 := Fr.nil n0
  refine o_aloadN X0 K d1_0 1 rfl rfl rfl ?_
  refine o_initO X0 K d1_1 4 rfl (w_6 hw) (w_7 hw) (w_8 hw) e0 rfl (by decide) 0 (Nat.le_of_eq rfl) (by decide) ?_
  intro T_14 X_14 e_14
  refine o_aloadN X_14 K d1_4 5 rfl rfl rfl ?_
  refine o_bipush X_14 K (64 : Int32) d1_5 7 rfl rfl ?_
  refine o_newarray X_14 K (n := 64) d1_7 9 rfl (w_9 hw) e_14 (by decide) 64 (by decide) (by decide) (by decide) (by decide) rfl ?_
  intro T_15 h_15 ar g_15 X_15 e_15 E_15 A_15
  dsimp only [newarray.typeOf, defaultValue] at A_15
  have Z_15 : n0 ≤ h_15.size := Nat.le_trans Z0 E_15.1
  have f_16 := Exa.ext E_15 E_b
  have f_17 := Fld.ext E_15 F_b_size
  have f_18 := Fld.ext E_15 F_b_longs
  have f_19 := Fld.ext E_15 F_b_ints
  have g_ar : n0 ≤ ar := by rw [g_15]; exact Z0
  have ne_b_ar : b ≠ ar := by rw [g_15]; exact Nat.ne_of_lt E_b.lt
  refine o_putfield X_15 K (host := "") (ty := (.array .int)) d1_9 12 rfl (Or.inl (w_10 hw)) Via.refl e_15 f_19 f_16 (Or.inl (w_11 hw)) (w_1 hw) (by decide) rfl rfl N0 g_b ?_
  intro T_20 h_20 locs_20 X_20 e_20 W_20 N_20
  have Z_20 : n0 ≤ h_20.size := by rw [Wr.size W_20]; exact Z_15
  have f_21 := Exa.wr W_20 f_16
  have f_22 := Fld.other W_20 f_17 (Or.inr (slot_ne (Or.inl (w_20 hw)) (Or.inl (w_11 hw)) (by decide) (t := .int) (t' := (.array .int)) (by decide) (by decide)))
  have f_23 := Fld.other W_20 f_18 (Or.inr (slot_ne (Or.inl (w_18 hw)) (Or.inl (w_11 hw)) (by decide) (t := (.array .long)) (t' := (.array .int)) (by decide) (by decide)))
  have f_24 := Fld.same W_20 f_19
  have f_25 := A_15.other W_20 (Ne.symm ne_b_ar)
  refine o_return X_20 K d1_12 (by decide) (by decide) N_20 ?_
  rw [e_20]
  exact ⟨rfl, Z_20, Or.inl ⟨ar, (fun _ => 0), (0 : Int32), g_ar, Ne.symm ne_b_ar, rfl, f_21, f_22, f_23, f_24, f_25, fun j hj => absurd hj (Nat.not_lt_zero j)⟩⟩
theorem d3_0 : decode prog_5_method_5_code 0 = .ok (.aload_n 0, 1) := by decide +kernel
theorem d3_1 : decode prog_5_method_5_code 1 = .ok (.getfield 13, 3) := by decide +kernel
theorem d3_4 : decode prog_5_method_5_code 4 = .ok (.ifnonnull 21, 3) := by decide +kernel
theorem d3_7 : decode prog_5_method_5_code 7 = .ok (.aload_n 0, 1) := by decide +kernel
theorem d3_8 : decode prog_5_method_5_code 8 = .ok (.aload_n 0, 1) := by decide +kernel
theorem d3_9 : decode prog_5_method_5_code 9 = .ok (.getfield 9, 3) := by decide +kernel
theorem d3_12 : decode prog_5_method_5_code 12 = .ok (.aload_n 0, 1) := by decide +kernel
theorem d3_13 : decode prog_5_method_5_code 13 = .ok (.getfield 17, 3) := by decide +kernel
theorem d3_16 : decode prog_5_method_5_code 16 = .ok (.invokestatic 25, 3) := by decide +kernel
theorem pd___II__I : parseMethodDescriptor "([II)[I" = some ⟨[(.array .int), .int], some (.array .int)⟩ := by decide +kernel
theorem d3_19 : decode prog_5_method_5_code 19 = .ok (.putfield 9, 3) := by decide +kernel
theorem d3_22 : decode prog_5_method_5_code 22 = .ok (.goto 18, 3) := by decide +kernel
theorem d3_40 : decode prog_5_method_5_code 40 = .ok (.return_, 1) := by decide +kernel
theorem d3_25 : decode prog_5_method_5_code 25 = .ok (.aload_n 0, 1) := by decide +kernel
theorem d3_26 : decode prog_5_method_5_code 26 = .ok (.aload_n 0, 1) := by decide +kernel
theorem d3_27 : decode prog_5_method_5_code 27 = .ok (.getfield 13, 3) := by decide +kernel
theorem d3_30 : decode prog_5_method_5_code 30 = .ok (.aload_n 0, 1) := by decide +kernel
theorem d3_31 : decode prog_5_method_5_code 31 = .ok (.getfield 17, 3) := by decide +kernel
theorem d3_34 : decode prog_5_method_5_code 34 = .ok (.invokestatic 31, 3) := by decide +kernel
theorem pd___JI__J : parseMethodDescriptor "([JI)[J" = some ⟨[(.array .long), .int], some (.array .long)⟩ := by decide +kernel
theorem d3_37 : decode prog_5_method_5_code 37 = .ok (.putfield 13, 3) := by decide +kernel
theorem pn_3 : plainFor (⟨"com/example/planwright/planwright/WholeNumbers", "trim", "()V"⟩ : MethodName) = true := plainFor_of_name (by first | (simp [plainName, overriddenIn]; done) | decide +kernel)
set_option maxHeartbeats 4000000 in
theorem c_trim (l : Launch) (Z : State) (a0 : Array Value) (hw : OW Z a0) (n0 : Nat) (b : Addr) (n : Nat) (g : Nat → Int64) (len : Nat) (h0 : Heap) (Z0 : n0 ≤ h0.size) (W : own_W Z h0 n0 b n g len) (g_b : n0 ≤ b) (hn : ¬ n = len ∧ n ≤ len ∧ n ≤ 3) :
    OCon l Z n0 (⟨"com/example/planwright/planwright/WholeNumbers", "trim", "()V"⟩ : MethodName) prog_5_method_5_code 1 none ({ frames := 2, cells := 1, slots := 3, locals := 80 } : Room) #[(.ref b)] h0 (fun v h => v = none ∧ own_W Z h n0 b n g n) := by
  refine OCon.of (Ls := #[.val (.ref b)]) pn_3 rfl rfl (fun m => by first | (simp [entryFrame, mkF, argsToLocals, Value.category]; done) | rfl) ?_
  intro p e s m below meth c T0 X0 K e0
  have N0 := Fr.nil n0
  rcases W.2 with WI | WL
  · skip
    obtain ⟨ar, f, sz, g_ar, ne_ar_b, hsz, E_b, F_size, F_longs, F_ints, A_ar, hg⟩ := WI
    obtain ⟨zl, hzl⟩ : ∃ z_ : Int32, z_.toInt = (len : Int) := ⟨len.toInt32, o_len A_ar.len⟩
    refine o_aloadN X0 K d3_0 1 rfl rfl rfl ?_
    refine o_getfield X0 K (host := "") d3_1 4 rfl (Or.inl (w_17 hw)) Via.refl e0 F_longs ?_
    intro T_26 X_26 e_26
    refine o_ifnonnull_f X_26 K d3_4 7 rfl ?_
    refine o_aloadN X_26 K d3_7 8 rfl rfl rfl ?_
    refine o_aloadN X_26 K d3_8 9 rfl rfl rfl ?_
    refine o_getfield X_26 K (host := "") d3_9 12 rfl (Or.inl (w_10 hw)) Via.refl e_26 F_ints ?_
    intro T_27 X_27 e_27
    refine o_aloadN X_27 K d3_12 13 rfl rfl rfl ?_
    refine o_getfield X_27 K (host := "") d3_13 16 rfl (Or.inl (w_19 hw)) Via.refl e_27 F_size ?_
    intro T_28 X_28 e_28
    refine o_invokestatic X_28 K d3_16 19 rfl (w_21 hw) (w_22 hw) (w_23 hw) (w_24 hw) (by decide) [(.ref ar), (.int sz)] [(.ref b)] rfl  (c_copyI l Z a0 hw n0 ar len n f zl sz hzl (hsz) h0 Z0 A_ar (by omega)) e_28 rfl (lenOf pd___II__I rfl) (by decide) 1 (Nat.le_of_eq rfl) (by decide) (by decide) (by decide) N0 ?_
    rintro _ T_29 h_29 locs_29 X_29 e_29 ⟨nr, rfl, k_29, gg_29_b, sz_29_b, p_29f0⟩ N_29
    have Z_29 : n0 ≤ h_29.size := Nat.le_trans Z0 k_29.1
    have f_30 := Exa.keep E_b k_29
    have f_31 := Fld.keep F_size k_29 (nin0)
    have f_32 := Fld.keep F_longs k_29 (nin0)
    have f_33 := Fld.keep F_ints k_29 (nin0)
    have f_34 := A_ar.keep k_29 (nin0)
    have ne_b_nr : b ≠ nr := Nat.ne_of_lt (Nat.lt_of_lt_of_le E_b.lt sz_29_b)
    have ne_ar_nr : ar ≠ nr := Nat.ne_of_lt (Nat.lt_of_lt_of_le A_ar.lt sz_29_b)
    show OGo p e below s n0 _ _ _ (T_29.setTop (mkF m 19 #[.val (.ref b)] [(.ref nr), (.ref b)]))
    refine o_putfield X_29 K (host := "") (ty := (.array .int)) d3_19 22 rfl (Or.inl (w_10 hw)) Via.refl e_29 f_33 f_30 (Or.inl (w_11 hw)) (w_1 hw) (by decide) rfl rfl N_29 g_b ?_
    intro T_35 h_35 locs_35 X_35 e_35 W_35 N_35
    have Z_35 : n0 ≤ h_35.size := by rw [Wr.size W_35]; exact Z_29
    have f_36 := Exa.wr W_35 f_30
    have f_37 := Fld.other W_35 f_31 (Or.inr (slot_ne (Or.inl (w_20 hw)) (Or.inl (w_11 hw)) (by decide) (t := .int) (t' := (.array .int)) (by decide) (by decide)))
    have f_38 := Fld.other W_35 f_32 (Or.inr (slot_ne (Or.inl (w_18 hw)) (Or.inl (w_11 hw)) (by decide) (t := (.array .long)) (t' := (.array .int)) (by decide) (by decide)))
    have f_39 := Fld.same W_35 f_33
    have f_40 := f_34.other W_35 ne_ar_b
    have f_41 := p_29f0.other W_35 (Ne.symm ne_b_nr)
    refine o_goto X_35 K d3_22 40 (by decide) (by decide) ?_
    refine o_return X_35 K d3_40 (by decide) (by decide) N_35 ?_
    rw [e_35]
    refine ⟨rfl, Z_35, Or.inl ⟨nr, (fun q => if q < n ∧ q < len then f q else 0), sz, gg_29_b, (Ne.symm ne_b_nr), hsz, f_36, f_37, f_38, f_39, f_41.congr (fun q hq => by by_cases hq2 : q < n ∧ q < len <;> simp [hq2]), fun j hj => ?_⟩⟩
    dsimp only
    rw [if_pos ⟨hj, by omega⟩]
    exact hg j hj
  · skip
    obtain ⟨ar, f, sz, g_ar, ne_ar_b, hsz, E_b, F_size, F_ints, F_longs, A_ar, hg⟩ := WL
    obtain ⟨zl, hzl⟩ : ∃ z_ : Int32, z_.toInt = (len : Int) := ⟨len.toInt32, o_len A_ar.len⟩
    refine o_aloadN X0 K d3_0 1 rfl rfl rfl ?_
    refine o_getfield X0 K (host := "") d3_1 4 rfl (Or.inl (w_17 hw)) Via.refl e0 F_longs ?_
    intro T_42 X_42 e_42
    refine o_ifnonnull_t X_42 K d3_4 25 (by decide) (by decide) ?_
    refine o_aloadN X_42 K d3_25 26 rfl rfl rfl ?_
    refine o_aloadN X_42 K d3_26 27 rfl rfl rfl ?_
    refine o_getfield X_42 K (host := "") d3_27 30 rfl (Or.inl (w_17 hw)) Via.refl e_42 F_longs ?_
    intro T_43 X_43 e_43
    refine o_aloadN X_43 K d3_30 31 rfl rfl rfl ?_
    refine o_getfield X_43 K (host := "") d3_31 34 rfl (Or.inl (w_19 hw)) Via.refl e_43 F_size ?_
    intro T_44 X_44 e_44
    refine o_invokestatic X_44 K d3_34 37 rfl (w_64 hw) (w_65 hw) (w_23 hw) (w_66 hw) (by decide) [(.ref ar), (.int sz)] [(.ref b)] rfl  (c_copyJ l Z a0 hw n0 ar len n f zl sz hzl (hsz) h0 Z0 A_ar (by omega)) e_44 rfl (lenOf pd___JI__J rfl) (by decide) 1 (Nat.le_of_eq rfl) (by decide) (by decide) (by decide) N0 ?_
    rintro _ T_45 h_45 locs_45 X_45 e_45 ⟨nr, rfl, k_45, gg_45_b, sz_45_b, p_45f0⟩ N_45
    have Z_45 : n0 ≤ h_45.size := Nat.le_trans Z0 k_45.1
    have f_46 := Exa.keep E_b k_45
    have f_47 := Fld.keep F_size k_45 (nin0)
    have f_48 := Fld.keep F_longs k_45 (nin0)
    have f_49 := Fld.keep F_ints k_45 (nin0)
    have f_50 := A_ar.keep k_45 (nin0)
    have ne_b_nr : b ≠ nr := Nat.ne_of_lt (Nat.lt_of_lt_of_le E_b.lt sz_45_b)
    have ne_ar_nr : ar ≠ nr := Nat.ne_of_lt (Nat.lt_of_lt_of_le A_ar.lt sz_45_b)
    show OGo p e below s n0 _ _ _ (T_45.setTop (mkF m 37 #[.val (.ref b)] [(.ref nr), (.ref b)]))
    refine o_putfield X_45 K (host := "") (ty := (.array .long)) d3_37 40 rfl (Or.inl (w_17 hw)) Via.refl e_45 f_48 f_46 (Or.inl (w_18 hw)) (w_1 hw) (by decide) rfl rfl N_45 g_b ?_
    intro T_51 h_51 locs_51 X_51 e_51 W_51 N_51
    have Z_51 : n0 ≤ h_51.size := by rw [Wr.size W_51]; exact Z_45
    have f_52 := Exa.wr W_51 f_46
    have f_53 := Fld.other W_51 f_47 (Or.inr (slot_ne (Or.inl (w_20 hw)) (Or.inl (w_18 hw)) (by decide) (t := .int) (t' := (.array .long)) (by decide) (by decide)))
    have f_54 := Fld.same W_51 f_48
    have f_55 := Fld.other W_51 f_49 (Or.inr (slot_ne (Or.inl (w_11 hw)) (Or.inl (w_18 hw)) (by decide) (t := (.array .int)) (t' := (.array .long)) (by decide) (by decide)))
    have f_56 := f_50.other W_51 ne_ar_b
    have f_57 := p_45f0.other W_51 (Ne.symm ne_b_nr)
    refine o_return X_51 K d3_40 (by decide) (by decide) N_51 ?_
    rw [e_51]
    refine ⟨rfl, Z_51, Or.inr ⟨nr, (fun q => if q < n ∧ q < len then f q else 0), sz, gg_45_b, (Ne.symm ne_b_nr), hsz, f_52, f_53, f_55, f_54, f_57.congr (fun q hq => by by_cases hq2 : q < n ∧ q < len <;> simp [hq2]), fun j hj => ?_⟩⟩
    dsimp only
    rw [if_pos ⟨hj, by omega⟩]
    exact hg j hj
theorem d9_0 : decode prog_5_method_4_code 0 = .ok (.aload_n 0, 1) := by decide +kernel
theorem d9_1 : decode prog_5_method_4_code 1 = .ok (.getfield 17, 3) := by decide +kernel
theorem d9_4 : decode prog_5_method_4_code 4 = .ok (.ireturn, 1) := by decide +kernel
theorem pn_9 : plainFor (⟨"com/example/planwright/planwright/WholeNumbers", "size", "()I"⟩ : MethodName) = true := plainFor_of_name (by first | (simp [plainName, overriddenIn]; done) | decide +kernel)
set_option maxHeartbeats 4000000 in
theorem c_size (l : Launch) (Z : State) (a0 : Array Value) (hw : OW Z a0) (n0 : Nat) (b : Addr) (sz : Int32) (h0 : Heap) (Z0 : n0 ≤ h0.size) (F_b_size : Fld Z h0 b "com/example/planwright/planwright/WholeNumbers" "size" "I" (.int sz)) :
    OCon l Z n0 (⟨"com/example/planwright/planwright/WholeNumbers", "size", "()I"⟩ : MethodName) prog_5_method_4_code 1 (some .int) ({ frames := 0, cells := 0, slots := 0, locals := 0 } : Room) #[(.ref b)] h0 (fun v h => v = some (.int sz) ∧ h = h0) := by
  refine OCon.of (Ls := #[.val (.ref b)]) pn_9 rfl rfl (fun m => by first | (simp [entryFrame, mkF, argsToLocals, Value.category]; done) | rfl) ?_
  intro p e s m below meth c T0 X0 K e0
  have N0 := Fr.nil n0
  refine o_aloadN X0 K d9_0 1 rfl rfl rfl ?_
  refine o_getfield X0 K (host := "") d9_1 4 rfl (Or.inl (w_19 hw)) Via.refl e0 F_b_size ?_
  intro T_58 X_58 e_58
  refine o_ireturn X_58 K d9_4 (by decide) (by decide) N0 ?_
  exact ⟨rfl, e_58⟩
theorem d12_0 : decode jdk_41_method_11_code 0 = .ok (.iload_n 0, 1) := by decide +kernel
theorem d12_1 : decode jdk_41_method_11_code 1 = .ok (.ifCond .lt 8, 3) := by decide +kernel
theorem d12_4 : decode jdk_41_method_11_code 4 = .ok (.iload_n 0, 1) := by decide +kernel
theorem d12_5 : decode jdk_41_method_11_code 5 = .ok (.iload_n 1, 1) := by decide +kernel
theorem d12_6 : decode jdk_41_method_11_code 6 = .ok (.if_icmp .lt 10, 3) := by decide +kernel
theorem d12_16 : decode jdk_41_method_11_code 16 = .ok (.iload_n 0, 1) := by decide +kernel
theorem d12_17 : decode jdk_41_method_11_code 17 = .ok (.ireturn, 1) := by decide +kernel
theorem pn_12 : plainFor (⟨"jdk/internal/util/Preconditions", "checkIndex", "(IILjava/util/function/BiFunction;)I"⟩ : MethodName) = true := plainFor_of_name (by first | (simp [plainName, overriddenIn]; done) | decide +kernel)
set_option maxHeartbeats 4000000 in
theorem c_ck (l : Launch) (Z : State) (a0 : Array Value) (hw : OW Z a0) (n0 : Nat) (i z : Int32) (h0 : Heap) (Z0 : n0 ≤ h0.size) (hi : 0 ≤ i.toInt ∧ i.toInt < z.toInt) :
    OCon l Z n0 (⟨"jdk/internal/util/Preconditions", "checkIndex", "(IILjava/util/function/BiFunction;)I"⟩ : MethodName) jdk_41_method_11_code 3 (some .int) ({ frames := 0, cells := 0, slots := 0, locals := 0 } : Room) #[(.int i), (.int z), .null] h0 (fun v h => v = some (.int i) ∧ h = h0) := by
  refine OCon.of (Ls := #[.val (.int i), .val (.int z), .val .null]) pn_12 rfl rfl (fun m => by first | (simp [entryFrame, mkF, argsToLocals, Value.category]; done) | rfl) ?_
  intro p e s m below meth c T0 X0 K e0
  have N0 := Fr.nil n0
  refine o_iloadN X0 K d12_0 1 rfl rfl ?_
  refine o_if_lt_f X0 K d12_1 4 rfl (hi.1) ?_
  refine o_iloadN X0 K d12_4 5 rfl rfl ?_
  refine o_iloadN X0 K d12_5 6 rfl rfl ?_
  refine o_icmp_lt_t X0 K d12_6 16 (by decide) (by decide) (hi.2) ?_
  refine o_iloadN X0 K d12_16 17 rfl rfl ?_
  refine o_ireturn X0 K d12_17 (by decide) (by decide) N0 ?_
  exact ⟨rfl, e0⟩
theorem d11_0 : decode jdk_31_method_17_code 0 = .ok (.iload_n 0, 1) := by decide +kernel
theorem d11_1 : decode jdk_31_method_17_code 1 = .ok (.iload_n 1, 1) := by decide +kernel
theorem d11_2 : decode jdk_31_method_17_code 2 = .ok (.aconst_null, 1) := by decide +kernel
theorem d11_3 : decode jdk_31_method_17_code 3 = .ok (.invokestatic 105, 3) := by decide +kernel
theorem pd__IILjava_util_function_BiFunction__I : parseMethodDescriptor "(IILjava/util/function/BiFunction;)I" = some ⟨[.int, .int, (.object "java/util/function/BiFunction")], some .int⟩ := by decide +kernel
theorem d11_6 : decode jdk_31_method_17_code 6 = .ok (.ireturn, 1) := by decide +kernel
theorem pn_11 : plainFor (⟨"java/util/Objects", "checkIndex", "(II)I"⟩ : MethodName) = true := plainFor_of_name (by first | (simp [plainName, overriddenIn]; done) | decide +kernel)
set_option maxHeartbeats 4000000 in
theorem c_ck2 (l : Launch) (Z : State) (a0 : Array Value) (hw : OW Z a0) (n0 : Nat) (i z : Int32) (h0 : Heap) (Z0 : n0 ≤ h0.size) (hi : 0 ≤ i.toInt ∧ i.toInt < z.toInt) :
    OCon l Z n0 (⟨"java/util/Objects", "checkIndex", "(II)I"⟩ : MethodName) jdk_31_method_17_code 2 (some .int) ({ frames := 1, cells := 0, slots := 0, locals := 20 } : Room) #[(.int i), (.int z)] h0 (fun v h => v = some (.int i) ∧ h = h0) := by
  refine OCon.of (Ls := #[.val (.int i), .val (.int z)]) pn_11 rfl rfl (fun m => by first | (simp [entryFrame, mkF, argsToLocals, Value.category]; done) | rfl) ?_
  intro p e s m below meth c T0 X0 K e0
  have N0 := Fr.nil n0
  refine o_iloadN X0 K d11_0 1 rfl rfl ?_
  refine o_iloadN X0 K d11_1 2 rfl rfl ?_
  refine o_aconst_null X0 K d11_2 3 rfl ?_
  refine o_invokestatic X0 K d11_3 6 rfl (w_59 hw) (w_60 hw) (w_61 hw) (w_62 hw) (by decide) [(.int i), (.int z), .null] [] rfl  (c_ck l Z a0 hw n0 i z h0 Z0 (hi)) e0 rfl (lenOf pd__IILjava_util_function_BiFunction__I rfl) (by decide) 0 (Nat.le_of_eq rfl) (by decide) (by decide) (by decide) N0 ?_
  rintro _ T_59 h_59 locs_59 X_59 q_59 ⟨rfl, r_59⟩ N_59
  have e_59 := q_59.trans r_59
  show OGo p e below s n0 _ _ _ (T_59.setTop (mkF m 6 #[.val (.int i), .val (.int z)] [(.int i)]))
  refine o_ireturn X_59 K d11_6 (by decide) (by decide) N_59 ?_
  exact ⟨rfl, e_59⟩
theorem d10_0 : decode prog_5_method_3_code 0 = .ok (.iload_n 1, 1) := by decide +kernel
theorem d10_1 : decode prog_5_method_3_code 1 = .ok (.aload_n 0, 1) := by decide +kernel
theorem d10_2 : decode prog_5_method_3_code 2 = .ok (.getfield 17, 3) := by decide +kernel
theorem d10_5 : decode prog_5_method_3_code 5 = .ok (.invokestatic 34, 3) := by decide +kernel
theorem d10_8 : decode prog_5_method_3_code 8 = .ok (.pop, 1) := by decide +kernel
theorem d10_9 : decode prog_5_method_3_code 9 = .ok (.aload_n 0, 1) := by decide +kernel
theorem d10_10 : decode prog_5_method_3_code 10 = .ok (.getfield 13, 3) := by decide +kernel
theorem d10_13 : decode prog_5_method_3_code 13 = .ok (.ifnonnull 13, 3) := by decide +kernel
theorem d10_16 : decode prog_5_method_3_code 16 = .ok (.aload_n 0, 1) := by decide +kernel
theorem d10_17 : decode prog_5_method_3_code 17 = .ok (.getfield 9, 3) := by decide +kernel
theorem d10_20 : decode prog_5_method_3_code 20 = .ok (.iload_n 1, 1) := by decide +kernel
theorem d10_21 : decode prog_5_method_3_code 21 = .ok (.iaload, 1) := by decide +kernel
theorem d10_22 : decode prog_5_method_3_code 22 = .ok (.i2l, 1) := by decide +kernel
theorem d10_23 : decode prog_5_method_3_code 23 = .ok (.goto 9, 3) := by decide +kernel
theorem d10_32 : decode prog_5_method_3_code 32 = .ok (.lreturn, 1) := by decide +kernel
theorem d10_26 : decode prog_5_method_3_code 26 = .ok (.aload_n 0, 1) := by decide +kernel
theorem d10_27 : decode prog_5_method_3_code 27 = .ok (.getfield 13, 3) := by decide +kernel
theorem d10_30 : decode prog_5_method_3_code 30 = .ok (.iload_n 1, 1) := by decide +kernel
theorem d10_31 : decode prog_5_method_3_code 31 = .ok (.laload, 1) := by decide +kernel
theorem pn_10 : plainFor (⟨"com/example/planwright/planwright/WholeNumbers", "get", "(I)J"⟩ : MethodName) = true := plainFor_of_name (by first | (simp [plainName, overriddenIn]; done) | decide +kernel)
set_option maxHeartbeats 4000000 in
theorem c_get (l : Launch) (Z : State) (a0 : Array Value) (hw : OW Z a0) (n0 : Nat) (b : Addr) (n : Nat) (g : Nat → Int64) (len : Nat) (i : Int32) (k : Nat) (h0 : Heap) (Z0 : n0 ≤ h0.size) (W : own_W Z h0 n0 b n g len) (hi : i.toInt = k ∧ k < n ∧ n ≤ len) :
    OCon l Z n0 (⟨"com/example/planwright/planwright/WholeNumbers", "get", "(I)J"⟩ : MethodName) prog_5_method_3_code 2 (some .long) ({ frames := 2, cells := 0, slots := 0, locals := 40 } : Room) #[(.ref b), (.int i)] h0 (fun v h => v = some (.long (g k)) ∧ h = h0) := by
  refine OCon.of (Ls := #[.val (.ref b), .val (.int i)]) pn_10 rfl rfl (fun m => by first | (simp [entryFrame, mkF, argsToLocals, Value.category]; done) | rfl) ?_
  intro p e s m below meth c T0 X0 K e0
  have N0 := Fr.nil n0
  rcases W.2 with WI | WL
  · skip
    obtain ⟨ar, f, sz, g_ar, ne_ar_b, hsz, E_b, F_size, F_longs, F_ints, A_ar, hg⟩ := WI
    obtain ⟨zl, hzl⟩ : ∃ z_ : Int32, z_.toInt = (len : Int) := ⟨len.toInt32, o_len A_ar.len⟩
    refine o_iloadN X0 K d10_0 1 rfl rfl ?_
    refine o_aloadN X0 K d10_1 2 rfl rfl rfl ?_
    refine o_getfield X0 K (host := "") d10_2 5 rfl (Or.inl (w_19 hw)) Via.refl e0 F_size ?_
    intro T_60 X_60 e_60
    refine o_invokestatic X_60 K d10_5 8 rfl (w_55 hw) (w_56 hw) (w_57 hw) (w_58 hw) (by decide) [(.int i), (.int sz)] [] rfl  (c_ck2 l Z a0 hw n0 i sz h0 Z0 (by omega)) e_60 rfl (lenOf pd__II_I rfl) (by decide) 0 (Nat.le_of_eq rfl) (by decide) (by decide) (by decide) N0 ?_
    rintro _ T_61 h_61 locs_61 X_61 q_61 ⟨rfl, r_61⟩ N_61
    have e_61 := q_61.trans r_61
    show OGo p e below s n0 _ _ _ (T_61.setTop (mkF m 8 #[.val (.ref b), .val (.int i)] [(.int i)]))
    refine o_pop X_61 K d10_8 9 rfl rfl ?_
    refine o_aloadN X_61 K d10_9 10 rfl rfl rfl ?_
    refine o_getfield X_61 K (host := "") d10_10 13 rfl (Or.inl (w_17 hw)) Via.refl e_61 F_longs ?_
    intro T_62 X_62 e_62
    refine o_ifnonnull_f X_62 K d10_13 16 rfl ?_
    refine o_aloadN X_62 K d10_16 17 rfl rfl rfl ?_
    refine o_getfield X_62 K (host := "") d10_17 20 rfl (Or.inl (w_10 hw)) Via.refl e_62 F_ints ?_
    intro T_63 X_63 e_63
    refine o_iloadN X_63 K d10_20 21 rfl rfl ?_
    refine o_iaload X_63 K (i := k) (v := (.int (f k))) d10_21 22 rfl e_63 A_ar (hi.1) (by omega) (rfl) ?_
    refine o_i2l X_63 K d10_22 23 rfl ?_
    refine o_goto X_63 K d10_23 32 (by decide) (by decide) ?_
    refine o_lreturn X_63 K d10_32 (by decide) (by decide) N_61 ?_
    exact ⟨by rw [← hg k hi.2.1], e_63⟩
  · skip
    obtain ⟨ar, f, sz, g_ar, ne_ar_b, hsz, E_b, F_size, F_ints, F_longs, A_ar, hg⟩ := WL
    obtain ⟨zl, hzl⟩ : ∃ z_ : Int32, z_.toInt = (len : Int) := ⟨len.toInt32, o_len A_ar.len⟩
    refine o_iloadN X0 K d10_0 1 rfl rfl ?_
    refine o_aloadN X0 K d10_1 2 rfl rfl rfl ?_
    refine o_getfield X0 K (host := "") d10_2 5 rfl (Or.inl (w_19 hw)) Via.refl e0 F_size ?_
    intro T_64 X_64 e_64
    refine o_invokestatic X_64 K d10_5 8 rfl (w_55 hw) (w_56 hw) (w_57 hw) (w_58 hw) (by decide) [(.int i), (.int sz)] [] rfl  (c_ck2 l Z a0 hw n0 i sz h0 Z0 (by omega)) e_64 rfl (lenOf pd__II_I rfl) (by decide) 0 (Nat.le_of_eq rfl) (by decide) (by decide) (by decide) N0 ?_
    rintro _ T_65 h_65 locs_65 X_65 q_65 ⟨rfl, r_65⟩ N_65
    have e_65 := q_65.trans r_65
    show OGo p e below s n0 _ _ _ (T_65.setTop (mkF m 8 #[.val (.ref b), .val (.int i)] [(.int i)]))
    refine o_pop X_65 K d10_8 9 rfl rfl ?_
    refine o_aloadN X_65 K d10_9 10 rfl rfl rfl ?_
    refine o_getfield X_65 K (host := "") d10_10 13 rfl (Or.inl (w_17 hw)) Via.refl e_65 F_longs ?_
    intro T_66 X_66 e_66
    refine o_ifnonnull_t X_66 K d10_13 26 (by decide) (by decide) ?_
    refine o_aloadN X_66 K d10_26 27 rfl rfl rfl ?_
    refine o_getfield X_66 K (host := "") d10_27 30 rfl (Or.inl (w_17 hw)) Via.refl e_66 F_longs ?_
    intro T_67 X_67 e_67
    refine o_iloadN X_67 K d10_30 31 rfl rfl ?_
    refine o_laload X_67 K (i := k) (v := (.long (f k))) d10_31 32 rfl e_67 A_ar (hi.1) (by omega) (rfl) ?_
    refine o_lreturn X_67 K d10_32 (by decide) (by decide) N_65 ?_
    exact ⟨by rw [← hg k hi.2.1], e_67⟩
theorem d6_0 : decode prog_5_method_2_code 0 = .ok (.aload_n 0, 1) := by decide +kernel
theorem d6_1 : decode prog_5_method_2_code 1 = .ok (.getfield 13, 3) := by decide +kernel
theorem d6_4 : decode prog_5_method_2_code 4 = .ok (.ifnonnull 56, 3) := by decide +kernel
theorem d6_7 : decode prog_5_method_2_code 7 = .ok (.lload_n 1, 1) := by decide +kernel
theorem d6_8 : decode prog_5_method_2_code 8 = .ok (.l2i, 1) := by decide +kernel
theorem d6_9 : decode prog_5_method_2_code 9 = .ok (.i2l, 1) := by decide +kernel
theorem d6_10 : decode prog_5_method_2_code 10 = .ok (.lload_n 1, 1) := by decide +kernel
theorem d6_11 : decode prog_5_method_2_code 11 = .ok (.lcmp, 1) := by decide +kernel
theorem d6_12 : decode prog_5_method_2_code 12 = .ok (.ifCond .eq 48, 3) := by decide +kernel
theorem d6_60 : decode prog_5_method_2_code 60 = .ok (.aload_n 0, 1) := by decide +kernel
theorem d6_61 : decode prog_5_method_2_code 61 = .ok (.getfield 13, 3) := by decide +kernel
theorem d6_64 : decode prog_5_method_2_code 64 = .ok (.ifnonnull 44, 3) := by decide +kernel
theorem d6_67 : decode prog_5_method_2_code 67 = .ok (.aload_n 0, 1) := by decide +kernel
theorem d6_68 : decode prog_5_method_2_code 68 = .ok (.getfield 17, 3) := by decide +kernel
theorem d6_71 : decode prog_5_method_2_code 71 = .ok (.aload_n 0, 1) := by decide +kernel
theorem d6_72 : decode prog_5_method_2_code 72 = .ok (.getfield 9, 3) := by decide +kernel
theorem d6_75 : decode prog_5_method_2_code 75 = .ok (.arraylength, 1) := by decide +kernel
theorem d6_76 : decode prog_5_method_2_code 76 = .ok (.if_icmp .ne 18, 3) := by decide +kernel
theorem d6_94 : decode prog_5_method_2_code 94 = .ok (.aload_n 0, 1) := by decide +kernel
theorem d6_95 : decode prog_5_method_2_code 95 = .ok (.getfield 9, 3) := by decide +kernel
theorem d6_98 : decode prog_5_method_2_code 98 = .ok (.aload_n 0, 1) := by decide +kernel
theorem d6_99 : decode prog_5_method_2_code 99 = .ok (.getfield 17, 3) := by decide +kernel
theorem d6_102 : decode prog_5_method_2_code 102 = .ok (.lload_n 1, 1) := by decide +kernel
theorem d6_103 : decode prog_5_method_2_code 103 = .ok (.l2i, 1) := by decide +kernel
theorem d6_104 : decode prog_5_method_2_code 104 = .ok (.iastore, 1) := by decide +kernel
theorem d6_105 : decode prog_5_method_2_code 105 = .ok (.goto 40, 3) := by decide +kernel
theorem d6_145 : decode prog_5_method_2_code 145 = .ok (.aload_n 0, 1) := by decide +kernel
theorem d6_146 : decode prog_5_method_2_code 146 = .ok (.dup, 1) := by decide +kernel
theorem d6_147 : decode prog_5_method_2_code 147 = .ok (.getfield 17, 3) := by decide +kernel
theorem d6_150 : decode prog_5_method_2_code 150 = .ok (.iconst 1, 1) := by decide +kernel
theorem d6_151 : decode prog_5_method_2_code 151 = .ok (.iadd, 1) := by decide +kernel
theorem d6_152 : decode prog_5_method_2_code 152 = .ok (.putfield 17, 3) := by decide +kernel
theorem d6_155 : decode prog_5_method_2_code 155 = .ok (.return_, 1) := by decide +kernel
theorem d6_79 : decode prog_5_method_2_code 79 = .ok (.aload_n 0, 1) := by decide +kernel
theorem d6_80 : decode prog_5_method_2_code 80 = .ok (.aload_n 0, 1) := by decide +kernel
theorem d6_81 : decode prog_5_method_2_code 81 = .ok (.getfield 9, 3) := by decide +kernel
theorem d6_84 : decode prog_5_method_2_code 84 = .ok (.aload_n 0, 1) := by decide +kernel
theorem d6_85 : decode prog_5_method_2_code 85 = .ok (.invokevirtual 21, 3) := by decide +kernel
theorem pd___I : parseMethodDescriptor "()I" = some ⟨[], some .int⟩ := by decide +kernel
theorem d6_88 : decode prog_5_method_2_code 88 = .ok (.invokestatic 25, 3) := by decide +kernel
theorem d6_91 : decode prog_5_method_2_code 91 = .ok (.putfield 9, 3) := by decide +kernel
theorem d6_15 : decode prog_5_method_2_code 15 = .ok (.aload_n 0, 1) := by decide +kernel
theorem d6_16 : decode prog_5_method_2_code 16 = .ok (.aload_n 0, 1) := by decide +kernel
theorem d6_17 : decode prog_5_method_2_code 17 = .ok (.getfield 9, 3) := by decide +kernel
theorem d6_20 : decode prog_5_method_2_code 20 = .ok (.arraylength, 1) := by decide +kernel
theorem d6_21 : decode prog_5_method_2_code 21 = .ok (.newarray .long, 2) := by decide +kernel
theorem d6_23 : decode prog_5_method_2_code 23 = .ok (.putfield 13, 3) := by decide +kernel
theorem d6_26 : decode prog_5_method_2_code 26 = .ok (.iconst 0, 1) := by decide +kernel
theorem d6_27 : decode prog_5_method_2_code 27 = .ok (.istore_n 3, 1) := by decide +kernel
theorem d6_28 : decode prog_5_method_2_code 28 = .ok (.iload_n 3, 1) := by decide +kernel
theorem d6_29 : decode prog_5_method_2_code 29 = .ok (.aload_n 0, 1) := by decide +kernel
theorem d6_30 : decode prog_5_method_2_code 30 = .ok (.getfield 17, 3) := by decide +kernel
theorem d6_33 : decode prog_5_method_2_code 33 = .ok (.if_icmp .ge 22, 3) := by decide +kernel
theorem d6_55 : decode prog_5_method_2_code 55 = .ok (.aload_n 0, 1) := by decide +kernel
theorem d6_56 : decode prog_5_method_2_code 56 = .ok (.aconst_null, 1) := by decide +kernel
theorem d6_57 : decode prog_5_method_2_code 57 = .ok (.putfield 9, 3) := by decide +kernel
theorem d6_108 : decode prog_5_method_2_code 108 = .ok (.aload_n 0, 1) := by decide +kernel
theorem d6_109 : decode prog_5_method_2_code 109 = .ok (.getfield 17, 3) := by decide +kernel
theorem d6_112 : decode prog_5_method_2_code 112 = .ok (.aload_n 0, 1) := by decide +kernel
theorem d6_113 : decode prog_5_method_2_code 113 = .ok (.getfield 13, 3) := by decide +kernel
theorem d6_116 : decode prog_5_method_2_code 116 = .ok (.arraylength, 1) := by decide +kernel
theorem d6_117 : decode prog_5_method_2_code 117 = .ok (.if_icmp .ne 18, 3) := by decide +kernel
theorem d6_135 : decode prog_5_method_2_code 135 = .ok (.aload_n 0, 1) := by decide +kernel
theorem d6_136 : decode prog_5_method_2_code 136 = .ok (.getfield 13, 3) := by decide +kernel
theorem d6_139 : decode prog_5_method_2_code 139 = .ok (.aload_n 0, 1) := by decide +kernel
theorem d6_140 : decode prog_5_method_2_code 140 = .ok (.getfield 17, 3) := by decide +kernel
theorem d6_143 : decode prog_5_method_2_code 143 = .ok (.lload_n 1, 1) := by decide +kernel
theorem d6_144 : decode prog_5_method_2_code 144 = .ok (.lastore, 1) := by decide +kernel
theorem d6_120 : decode prog_5_method_2_code 120 = .ok (.aload_n 0, 1) := by decide +kernel
theorem d6_121 : decode prog_5_method_2_code 121 = .ok (.aload_n 0, 1) := by decide +kernel
theorem d6_122 : decode prog_5_method_2_code 122 = .ok (.getfield 13, 3) := by decide +kernel
theorem d6_125 : decode prog_5_method_2_code 125 = .ok (.aload_n 0, 1) := by decide +kernel
theorem d6_126 : decode prog_5_method_2_code 126 = .ok (.invokevirtual 21, 3) := by decide +kernel
theorem d6_129 : decode prog_5_method_2_code 129 = .ok (.invokestatic 31, 3) := by decide +kernel
theorem d6_132 : decode prog_5_method_2_code 132 = .ok (.putfield 13, 3) := by decide +kernel
theorem d6_36 : decode prog_5_method_2_code 36 = .ok (.aload_n 0, 1) := by decide +kernel
theorem d6_37 : decode prog_5_method_2_code 37 = .ok (.getfield 13, 3) := by decide +kernel
theorem d6_40 : decode prog_5_method_2_code 40 = .ok (.iload_n 3, 1) := by decide +kernel
theorem d6_41 : decode prog_5_method_2_code 41 = .ok (.aload_n 0, 1) := by decide +kernel
theorem d6_42 : decode prog_5_method_2_code 42 = .ok (.getfield 9, 3) := by decide +kernel
theorem d6_45 : decode prog_5_method_2_code 45 = .ok (.iload_n 3, 1) := by decide +kernel
theorem d6_46 : decode prog_5_method_2_code 46 = .ok (.iaload, 1) := by decide +kernel
theorem d6_47 : decode prog_5_method_2_code 47 = .ok (.i2l, 1) := by decide +kernel
theorem d6_48 : decode prog_5_method_2_code 48 = .ok (.lastore, 1) := by decide +kernel
theorem d6_49 : decode prog_5_method_2_code 49 = .ok (.iinc 3 1, 3) := by decide +kernel
theorem d6_52 : decode prog_5_method_2_code 52 = .ok (.goto (-24), 3) := by decide +kernel
theorem pn_6 : plainFor (⟨"com/example/planwright/planwright/WholeNumbers", "add", "(J)V"⟩ : MethodName) = true := plainFor_of_name (by first | (simp [plainName, overriddenIn]; done) | decide +kernel)
set_option maxHeartbeats 4000000 in
theorem c_add (l : Launch) (Z : State) (a0 : Array Value) (hw : OW Z a0) (n0 : Nat) (b : Addr) (n : Nat) (g : Nat → Int64) (len : Nat) (q : Int64) (h0 : Heap) (Z0 : n0 ≤ h0.size) (W : own_W Z h0 n0 b n g len) (g_b : n0 ≤ b) (hn : n ≤ len ∧ n ≤ 2 ∧ len ≤ 64) :
    OCon l Z n0 (⟨"com/example/planwright/planwright/WholeNumbers", "add", "(J)V"⟩ : MethodName) prog_5_method_2_code 4 none ({ frames := 2, cells := 2, slots := 67, locals := 90 } : Room) #[(.ref b), (.long q)] h0 (fun v h => v = none ∧ own_W Z h n0 b (n + 1) (fun j => if j = n then q else g j) (if n = len then n + 1 else len)) := by
  refine OCon.of (Ls := #[.val (.ref b), .val (.long q), .second, .unset]) pn_6 rfl rfl (fun m => by first | (simp [entryFrame, mkF, argsToLocals, Value.category]; done) | rfl) ?_
  intro p e s m below meth c T0 X0 K e0
  have N0 := Fr.nil n0
  rcases W.2 with WI | WL
  · skip
    obtain ⟨ar, f, sz, g_ar, ne_ar_b, hsz, E_b, F_size, F_longs, F_ints, A_ar, hg⟩ := WI
    obtain ⟨zl, hzl⟩ : ∃ z_ : Int32, z_.toInt = (len : Int) := ⟨len.toInt32, o_len A_ar.len⟩
    refine o_aloadN X0 K d6_0 1 rfl rfl rfl ?_
    refine o_getfield X0 K (host := "") d6_1 4 rfl (Or.inl (w_17 hw)) Via.refl e0 F_longs ?_
    intro T_68 X_68 e_68
    refine o_ifnonnull_f X_68 K d6_4 7 rfl ?_
    refine o_lloadN X_68 K d6_7 8 rfl rfl ?_
    refine o_l2i X_68 K d6_8 9 rfl ?_
    refine o_i2l X_68 K d6_9 10 rfl ?_
    refine o_lloadN X_68 K d6_10 11 rfl rfl ?_
    refine o_lcmp X_68 K d6_11 12 rfl ?_
    refine o_if_eq X_68 K d6_12 60 (by decide) (by decide) 15 rfl (fun hc12 => ?_) (fun hc12 => ?_)
    · refine o_aloadN X_68 K d6_60 61 rfl rfl rfl ?_
      refine o_getfield X_68 K (host := "") d6_61 64 rfl (Or.inl (w_17 hw)) Via.refl e_68 F_longs ?_
      intro T_69 X_69 e_69
      refine o_ifnonnull_f X_69 K d6_64 67 rfl ?_
      refine o_aloadN X_69 K d6_67 68 rfl rfl rfl ?_
      refine o_getfield X_69 K (host := "") d6_68 71 rfl (Or.inl (w_19 hw)) Via.refl e_69 F_size ?_
      intro T_70 X_70 e_70
      refine o_aloadN X_70 K d6_71 72 rfl rfl rfl ?_
      refine o_getfield X_70 K (host := "") d6_72 75 rfl (Or.inl (w_10 hw)) Via.refl e_70 F_ints ?_
      intro T_71 X_71 e_71
      refine o_arraylength X_71 K d6_75 76 rfl e_71 A_ar (v := zl) (hzl) ?_
      refine o_icmp_ne X_71 K d6_76 94 (by decide) (by decide) 79 rfl (fun hc76 => ?_) (fun hc76 => ?_)
      · have hnl : ¬ n = len := fun z_ => hc76 (Int32.toInt_inj.mp (by omega))
        refine o_aloadN X_71 K d6_94 95 rfl rfl rfl ?_
        refine o_getfield X_71 K (host := "") d6_95 98 rfl (Or.inl (w_10 hw)) Via.refl e_71 F_ints ?_
        intro T_72 X_72 e_72
        refine o_aloadN X_72 K d6_98 99 rfl rfl rfl ?_
        refine o_getfield X_72 K (host := "") d6_99 102 rfl (Or.inl (w_19 hw)) Via.refl e_72 F_size ?_
        intro T_73 X_73 e_73
        refine o_lloadN X_73 K d6_102 103 rfl rfl ?_
        refine o_l2i X_73 K d6_103 104 rfl ?_
        refine o_iastore X_73 K (i := n) (x' := (q.toInt32)) d6_104 105 rfl e_73 A_ar (hsz) (by omega) (rfl) N0 g_ar ?_
        intro T_74 h_74 locs_74 X_74 e_74 W_74 A_74 N_74
        have Z_74 : n0 ≤ h_74.size := by rw [Wr.size W_74]; exact Z0
        have f_75 := Exa.wr W_74 E_b
        have f_76 := Fld.other W_74 F_size (Or.inl (Ne.symm ne_ar_b))
        have f_77 := Fld.other W_74 F_longs (Or.inl (Ne.symm ne_ar_b))
        have f_78 := Fld.other W_74 F_ints (Or.inl (Ne.symm ne_ar_b))
        refine o_goto X_74 K d6_105 145 (by decide) (by decide) ?_
        refine o_aloadN X_74 K d6_145 146 rfl rfl rfl ?_
        refine o_dup X_74 K d6_146 147 rfl rfl ?_
        refine o_getfield X_74 K (host := "") d6_147 150 rfl (Or.inl (w_19 hw)) Via.refl e_74 f_76 ?_
        intro T_79 X_79 e_79
        refine o_iconst X_79 K (1 : Int32) d6_150 151 rfl rfl ?_
        refine o_iadd X_79 K d6_151 152 rfl ?_
        refine o_putfield X_79 K (host := "") (ty := .int) d6_152 155 rfl (Or.inl (w_19 hw)) Via.refl e_79 f_76 f_75 (Or.inl (w_20 hw)) (w_1 hw) (by decide) rfl rfl N_74 g_b ?_
        intro T_80 h_80 locs_80 X_80 e_80 W_80 N_80
        have Z_80 : n0 ≤ h_80.size := by rw [Wr.size W_80]; exact Z_74
        have f_81 := Exa.wr W_80 f_75
        have f_82 := Fld.same W_80 f_76
        have f_83 := Fld.other W_80 f_77 (Or.inr (slot_ne (Or.inl (w_18 hw)) (Or.inl (w_20 hw)) (by decide) (t := (.array .long)) (t' := .int) (by decide) (by decide)))
        have f_84 := Fld.other W_80 f_78 (Or.inr (slot_ne (Or.inl (w_11 hw)) (Or.inl (w_20 hw)) (by decide) (t := (.array .int)) (t' := .int) (by decide) (by decide)))
        have f_85 := A_74.other W_80 ne_ar_b
        refine o_return X_80 K d6_155 (by decide) (by decide) N_80 ?_
        rw [e_80]
        refine ⟨rfl, Z_80, Or.inl ⟨ar, (fun z => if z = n then q.toInt32 else f z), (sz + (1 : Int32)), g_ar, ne_ar_b, ?_, f_81, f_82, f_83, f_84, ?_, fun j hj => ?_⟩⟩
        · have q1 := c_iadd sz 1; have q2 := rng32 (sz + 1); have q3 : (1 : Int32).toInt = 1 := rfl; omega
        · rw [if_neg hnl]; exact f_85.congr (fun z hz => by by_cases h1 : z = n <;> simp [h1])
        · by_cases h1 : j = n
          · dsimp only; rw [if_pos h1, if_pos h1]; exact (lw_eq _ _).mp hc12
          · dsimp only; rw [if_neg h1, if_neg h1]
            exact hg j (by omega)
      · have hnl : n = len := by have q_ : sz.toInt = zl.toInt := (by rw [hc76]); omega
        refine o_aloadN X_71 K d6_79 80 rfl rfl rfl ?_
        refine o_aloadN X_71 K d6_80 81 rfl rfl rfl ?_
        refine o_getfield X_71 K (host := "") d6_81 84 rfl (Or.inl (w_10 hw)) Via.refl e_71 F_ints ?_
        intro T_86 X_86 e_86
        refine o_aloadN X_86 K d6_84 85 rfl rfl rfl ?_
        refine o_invokeprivate X_86 K d6_85 88 rfl (w_38 hw) (w_39 hw) (w_40 hw) (w_2 hw) (w_41 hw) (by decide) ⟨3, (w_1 hw)⟩ E_b [] [(.ref ar), (.ref b)] rfl  (c_grown l Z a0 hw n0 b sz h0 Z0 F_size (by omega)) e_86 rfl (lenOf pd___I rfl) (by decide) 2 (Nat.le_of_eq rfl) (by decide) (by decide) (by decide) N0 ?_
        rintro _ T_87 h_87 locs_87 X_87 q_87 ⟨gv_87, rfl, hgv_87, r_87⟩ N_87
        have e_87 := q_87.trans r_87
        show OGo p e below s n0 _ _ _ (T_87.setTop (mkF m 88 #[.val (.ref b), .val (.long q), .second, .unset] [(.int gv_87), (.ref ar), (.ref b)]))
        refine o_invokestatic X_87 K d6_88 91 rfl (w_21 hw) (w_22 hw) (w_23 hw) (w_24 hw) (by decide) [(.ref ar), (.int gv_87)] [(.ref b)] rfl  (c_copyI l Z a0 hw n0 ar len (n + 1) f zl gv_87 hzl (by rw [hgv_87]; omega) h0 Z0 A_ar (by omega)) e_87 rfl (lenOf pd___II__I rfl) (by decide) 1 (Nat.le_of_eq rfl) (by decide) (by decide) (by decide) N_87 ?_
        rintro _ T_88 h_88 locs_88 X_88 e_88 ⟨nr, rfl, k_88, gg_88_b, sz_88_b, p_88f0⟩ N_88
        have Z_88 : n0 ≤ h_88.size := Nat.le_trans Z0 k_88.1
        have f_89 := Exa.keep E_b k_88
        have f_90 := Fld.keep F_size k_88 (nin0)
        have f_91 := Fld.keep F_longs k_88 (nin0)
        have f_92 := Fld.keep F_ints k_88 (nin0)
        have f_93 := A_ar.keep k_88 (nin0)
        have ne_b_nr : b ≠ nr := Nat.ne_of_lt (Nat.lt_of_lt_of_le E_b.lt sz_88_b)
        have ne_ar_nr : ar ≠ nr := Nat.ne_of_lt (Nat.lt_of_lt_of_le A_ar.lt sz_88_b)
        show OGo p e below s n0 _ _ _ (T_88.setTop (mkF m 91 #[.val (.ref b), .val (.long q), .second, .unset] [(.ref nr), (.ref b)]))
        refine o_putfield X_88 K (host := "") (ty := (.array .int)) d6_91 94 rfl (Or.inl (w_10 hw)) Via.refl e_88 f_92 f_89 (Or.inl (w_11 hw)) (w_1 hw) (by decide) rfl rfl N_88 g_b ?_
        intro T_94 h_94 locs_94 X_94 e_94 W_94 N_94
        have Z_94 : n0 ≤ h_94.size := by rw [Wr.size W_94]; exact Z_88
        have f_95 := Exa.wr W_94 f_89
        have f_96 := Fld.other W_94 f_90 (Or.inr (slot_ne (Or.inl (w_20 hw)) (Or.inl (w_11 hw)) (by decide) (t := .int) (t' := (.array .int)) (by decide) (by decide)))
        have f_97 := Fld.other W_94 f_91 (Or.inr (slot_ne (Or.inl (w_18 hw)) (Or.inl (w_11 hw)) (by decide) (t := (.array .long)) (t' := (.array .int)) (by decide) (by decide)))
        have f_98 := Fld.same W_94 f_92
        have f_99 := f_93.other W_94 ne_ar_b
        have f_100 := p_88f0.other W_94 (Ne.symm ne_b_nr)
        refine o_aloadN X_94 K d6_94 95 rfl rfl rfl ?_
        refine o_getfield X_94 K (host := "") d6_95 98 rfl (Or.inl (w_10 hw)) Via.refl e_94 f_98 ?_
        intro T_101 X_101 e_101
        refine o_aloadN X_101 K d6_98 99 rfl rfl rfl ?_
        refine o_getfield X_101 K (host := "") d6_99 102 rfl (Or.inl (w_19 hw)) Via.refl e_101 f_96 ?_
        intro T_102 X_102 e_102
        refine o_lloadN X_102 K d6_102 103 rfl rfl ?_
        refine o_l2i X_102 K d6_103 104 rfl ?_
        refine o_iastore X_102 K (i := n) (x' := (q.toInt32)) d6_104 105 rfl e_102 f_100 (hsz) (by omega) (rfl) N_94 gg_88_b ?_
        intro T_103 h_103 locs_103 X_103 e_103 W_103 A_103 N_103
        have Z_103 : n0 ≤ h_103.size := by rw [Wr.size W_103]; exact Z_94
        have f_104 := Exa.wr W_103 f_95
        have f_105 := Fld.other W_103 f_96 (Or.inl ne_b_nr)
        have f_106 := Fld.other W_103 f_97 (Or.inl ne_b_nr)
        have f_107 := Fld.other W_103 f_98 (Or.inl ne_b_nr)
        have f_108 := f_99.other W_103 ne_ar_nr
        refine o_goto X_103 K d6_105 145 (by decide) (by decide) ?_
        refine o_aloadN X_103 K d6_145 146 rfl rfl rfl ?_
        refine o_dup X_103 K d6_146 147 rfl rfl ?_
        refine o_getfield X_103 K (host := "") d6_147 150 rfl (Or.inl (w_19 hw)) Via.refl e_103 f_105 ?_
        intro T_109 X_109 e_109
        refine o_iconst X_109 K (1 : Int32) d6_150 151 rfl rfl ?_
        refine o_iadd X_109 K d6_151 152 rfl ?_
        refine o_putfield X_109 K (host := "") (ty := .int) d6_152 155 rfl (Or.inl (w_19 hw)) Via.refl e_109 f_105 f_104 (Or.inl (w_20 hw)) (w_1 hw) (by decide) rfl rfl N_103 g_b ?_
        intro T_110 h_110 locs_110 X_110 e_110 W_110 N_110
        have Z_110 : n0 ≤ h_110.size := by rw [Wr.size W_110]; exact Z_103
        have f_111 := Exa.wr W_110 f_104
        have f_112 := Fld.same W_110 f_105
        have f_113 := Fld.other W_110 f_106 (Or.inr (slot_ne (Or.inl (w_18 hw)) (Or.inl (w_20 hw)) (by decide) (t := (.array .long)) (t' := .int) (by decide) (by decide)))
        have f_114 := Fld.other W_110 f_107 (Or.inr (slot_ne (Or.inl (w_11 hw)) (Or.inl (w_20 hw)) (by decide) (t := (.array .int)) (t' := .int) (by decide) (by decide)))
        have f_115 := f_108.other W_110 ne_ar_b
        have f_116 := A_103.other W_110 (Ne.symm ne_b_nr)
        refine o_return X_110 K d6_155 (by decide) (by decide) N_110 ?_
        rw [e_110]
        refine ⟨rfl, Z_110, Or.inl ⟨nr, (fun z => if z = n then q.toInt32 else (if z < n + 1 ∧ z < len then f z else 0)), (sz + (1 : Int32)), gg_88_b, (Ne.symm ne_b_nr), ?_, f_111, f_112, f_113, f_114, ?_, fun j hj => ?_⟩⟩
        · have q1 := c_iadd sz 1; have q2 := rng32 (sz + 1); have q3 : (1 : Int32).toInt = 1 := rfl; omega
        · rw [if_pos hnl]; exact f_116.congr (fun z hz => by by_cases h1 : z = n <;> by_cases h2 : z < n + 1 ∧ z < len <;> simp [h1, h2])
        · by_cases h1 : j = n
          · dsimp only; rw [if_pos h1, if_pos h1]; exact (lw_eq _ _).mp hc12
          · dsimp only; rw [if_neg h1, if_neg h1, if_pos (by omega)]
            exact hg j (by omega)
    · refine o_aloadN X_68 K d6_15 16 rfl rfl rfl ?_
      refine o_aloadN X_68 K d6_16 17 rfl rfl rfl ?_
      refine o_getfield X_68 K (host := "") d6_17 20 rfl (Or.inl (w_10 hw)) Via.refl e_68 F_ints ?_
      intro T_117 X_117 e_117
      refine o_arraylength X_117 K d6_20 21 rfl e_117 A_ar (v := zl) (hzl) ?_
      refine o_newarray X_117 K (n := len) d6_21 23 rfl (w_63 hw) e_117 (hzl) 64 (hn.2.2) (by decide) (by decide) (by decide) rfl ?_
      intro T_118 h_118 lr g_118 X_118 e_118 E_118 A_118
      dsimp only [newarray.typeOf, defaultValue] at A_118
      have Z_118 : n0 ≤ h_118.size := Nat.le_trans Z0 E_118.1
      have f_119 := Exa.ext E_118 E_b
      have f_120 := Fld.ext E_118 F_size
      have f_121 := Fld.ext E_118 F_longs
      have f_122 := Fld.ext E_118 F_ints
      have f_123 := A_ar.ext E_118
      have g_lr : n0 ≤ lr := by rw [g_118]; exact Z0
      have ne_b_lr : b ≠ lr := by rw [g_118]; exact Nat.ne_of_lt E_b.lt
      have ne_ar_lr : ar ≠ lr := by rw [g_118]; exact Nat.ne_of_lt A_ar.lt
      refine o_putfield X_118 K (host := "") (ty := (.array .long)) d6_23 26 rfl (Or.inl (w_17 hw)) Via.refl e_118 f_121 f_119 (Or.inl (w_18 hw)) (w_1 hw) (by decide) rfl rfl N0 g_b ?_
      intro T_124 h_124 locs_124 X_124 e_124 W_124 N_124
      have Z_124 : n0 ≤ h_124.size := by rw [Wr.size W_124]; exact Z_118
      have f_125 := Exa.wr W_124 f_119
      have f_126 := Fld.other W_124 f_120 (Or.inr (slot_ne (Or.inl (w_20 hw)) (Or.inl (w_18 hw)) (by decide) (t := .int) (t' := (.array .long)) (by decide) (by decide)))
      have f_127 := Fld.same W_124 f_121
      have f_128 := Fld.other W_124 f_122 (Or.inr (slot_ne (Or.inl (w_11 hw)) (Or.inl (w_18 hw)) (by decide) (t := (.array .int)) (t' := (.array .long)) (by decide) (by decide)))
      have f_129 := f_123.other W_124 ne_ar_b
      have f_130 := A_118.other W_124 (Ne.symm ne_b_lr)
      refine o_iconst X_124 K (0 : Int32) d6_26 27 rfl rfl ?_
      refine o_istoreN X_124 K d6_27 28 rfl #[.val (.ref b), .val (.long q), .second, .val (.int (0 : Int32))] rfl rfl ?_
      have l1 : (1 : Int32).toInt = 1 := rfl
      refine o_ind (fun (t : State × Heap × List Loc × Int32 × (Nat → Int64)) => t.1.setTop (mkF m 28 #[.val (.ref b), .val (.long q), .second, .val (.int t.2.2.2.1)] [])) (fun d t => Stand p l e ({ frames := 2, cells := 2, slots := 67, locals := 90 } : Room) s m #[(.ref b), (.long q)] below meth c t.1 t.2.2.1 1 64 ∧ t.1.heap = t.2.1 ∧ Fr n0 t.2.2.1 ∧ n0 ≤ t.2.1.size ∧ Exa Z t.2.1 b "com/example/planwright/planwright/WholeNumbers" ∧ Fld Z t.2.1 b "com/example/planwright/planwright/WholeNumbers" "size" "I" (.int sz) ∧ Fld Z t.2.1 b "com/example/planwright/planwright/WholeNumbers" "longs" "[J" (.ref lr) ∧ Fld Z t.2.1 b "com/example/planwright/planwright/WholeNumbers" "ints" "[I" (.ref ar) ∧ OAr Z t.2.1 ar .int len (fun j => .int (f j)) ∧ OAr Z t.2.1 lr .long len (fun j => .long (t.2.2.2.2 j)) ∧ 0 ≤ t.2.2.2.1.toInt ∧ t.2.2.2.1.toInt + d = sz.toInt ∧ ∀ j : Nat, (j : Int) < t.2.2.2.1.toInt → t.2.2.2.2 j = (f j).toInt64) ?_ ?_ n (T_124, h_124, _, (0 : Int32), (fun _ => 0)) ⟨X_124, e_124, N_124, Z_124, f_125, f_126, f_127, f_128, f_129, f_130, by show (0 : Int) ≤ (0 : Int32).toInt; decide, by show (0 : Int32).toInt + (n : Int) = sz.toInt; have q0 : (0 : Int32).toInt = 0 := rfl; omega, fun j hj => absurd hj (by show ¬ ((j : Int) < (0 : Int32).toInt); have q0 : (0 : Int32).toInt = 0 := rfl; omega)⟩
      · rintro ⟨T1, h1, locs1, i1, F1⟩ ⟨X1, e1, N1, Z1, E1, Fs1, Fl1, Fi1, A1, B1, hi0, hi1, hF⟩
        dsimp only at X1 e1 N1 Z1 E1 Fs1 Fl1 Fi1 A1 B1 hi0 hi1 hF
        show OGo p e below s n0 _ _ _ (T1.setTop (mkF m 28 #[.val (.ref b), .val (.long q), .second, .val (.int i1)] []))
        have hgF : ∀ j, j < n → F1 j = g j := fun j hj => (hF j (by omega)).trans (hg j hj)
        refine o_iloadN X1 K d6_28 29 rfl rfl ?_
        refine o_aloadN X1 K d6_29 30 rfl rfl rfl ?_
        refine o_getfield X1 K (host := "") d6_30 33 rfl (Or.inl (w_19 hw)) Via.refl e1 Fs1 ?_
        intro T_131 X_131 e_131
        refine o_icmp_ge_t X_131 K d6_33 55 (by decide) (by decide) (by omega) ?_
        refine o_aloadN X_131 K d6_55 56 rfl rfl rfl ?_
        refine o_aconst_null X_131 K d6_56 57 rfl ?_
        refine o_putfield X_131 K (host := "") (ty := (.array .int)) d6_57 60 rfl (Or.inl (w_10 hw)) Via.refl e_131 Fi1 E1 (Or.inl (w_11 hw)) (w_1 hw) (by decide) rfl rfl N1 g_b ?_
        intro T_132 h_132 locs_132 X_132 e_132 W_132 N_132
        have Z_132 : n0 ≤ h_132.size := by rw [Wr.size W_132]; exact Z1
        have f_133 := Exa.wr W_132 E1
        have f_134 := Fld.other W_132 Fs1 (Or.inr (slot_ne (Or.inl (w_20 hw)) (Or.inl (w_11 hw)) (by decide) (t := .int) (t' := (.array .int)) (by decide) (by decide)))
        have f_135 := Fld.other W_132 Fl1 (Or.inr (slot_ne (Or.inl (w_18 hw)) (Or.inl (w_11 hw)) (by decide) (t := (.array .long)) (t' := (.array .int)) (by decide) (by decide)))
        have f_136 := Fld.same W_132 Fi1
        have f_137 := A1.other W_132 ne_ar_b
        have f_138 := B1.other W_132 (Ne.symm ne_b_lr)
        refine o_aloadN X_132 K d6_60 61 rfl rfl rfl ?_
        refine o_getfield X_132 K (host := "") d6_61 64 rfl (Or.inl (w_17 hw)) Via.refl e_132 f_135 ?_
        intro T_139 X_139 e_139
        refine o_ifnonnull_t X_139 K d6_64 108 (by decide) (by decide) ?_
        refine o_aloadN X_139 K d6_108 109 rfl rfl rfl ?_
        refine o_getfield X_139 K (host := "") d6_109 112 rfl (Or.inl (w_19 hw)) Via.refl e_139 f_134 ?_
        intro T_140 X_140 e_140
        refine o_aloadN X_140 K d6_112 113 rfl rfl rfl ?_
        refine o_getfield X_140 K (host := "") d6_113 116 rfl (Or.inl (w_17 hw)) Via.refl e_140 f_135 ?_
        intro T_141 X_141 e_141
        refine o_arraylength X_141 K d6_116 117 rfl e_141 f_138 (v := zl) (hzl) ?_
        refine o_icmp_ne X_141 K d6_117 135 (by decide) (by decide) 120 rfl (fun hc117 => ?_) (fun hc117 => ?_)
        · have hnl : ¬ n = len := fun z_ => hc117 (Int32.toInt_inj.mp (by omega))
          refine o_aloadN X_141 K d6_135 136 rfl rfl rfl ?_
          refine o_getfield X_141 K (host := "") d6_136 139 rfl (Or.inl (w_17 hw)) Via.refl e_141 f_135 ?_
          intro T_142 X_142 e_142
          refine o_aloadN X_142 K d6_139 140 rfl rfl rfl ?_
          refine o_getfield X_142 K (host := "") d6_140 143 rfl (Or.inl (w_19 hw)) Via.refl e_142 f_134 ?_
          intro T_143 X_143 e_143
          refine o_lloadN X_143 K d6_143 144 rfl rfl ?_
          refine o_lastore X_143 K (i := n) (x' := q) d6_144 145 rfl e_143 f_138 (hsz) (by omega) (rfl) N_132 g_lr ?_
          intro T_144 h_144 locs_144 X_144 e_144 W_144 A_144 N_144
          have Z_144 : n0 ≤ h_144.size := by rw [Wr.size W_144]; exact Z_132
          have f_145 := Exa.wr W_144 f_133
          have f_146 := Fld.other W_144 f_134 (Or.inl ne_b_lr)
          have f_147 := Fld.other W_144 f_135 (Or.inl ne_b_lr)
          have f_148 := Fld.other W_144 f_136 (Or.inl ne_b_lr)
          have f_149 := f_137.other W_144 ne_ar_lr
          refine o_aloadN X_144 K d6_145 146 rfl rfl rfl ?_
          refine o_dup X_144 K d6_146 147 rfl rfl ?_
          refine o_getfield X_144 K (host := "") d6_147 150 rfl (Or.inl (w_19 hw)) Via.refl e_144 f_146 ?_
          intro T_150 X_150 e_150
          refine o_iconst X_150 K (1 : Int32) d6_150 151 rfl rfl ?_
          refine o_iadd X_150 K d6_151 152 rfl ?_
          refine o_putfield X_150 K (host := "") (ty := .int) d6_152 155 rfl (Or.inl (w_19 hw)) Via.refl e_150 f_146 f_145 (Or.inl (w_20 hw)) (w_1 hw) (by decide) rfl rfl N_144 g_b ?_
          intro T_151 h_151 locs_151 X_151 e_151 W_151 N_151
          have Z_151 : n0 ≤ h_151.size := by rw [Wr.size W_151]; exact Z_144
          have f_152 := Exa.wr W_151 f_145
          have f_153 := Fld.same W_151 f_146
          have f_154 := Fld.other W_151 f_147 (Or.inr (slot_ne (Or.inl (w_18 hw)) (Or.inl (w_20 hw)) (by decide) (t := (.array .long)) (t' := .int) (by decide) (by decide)))
          have f_155 := Fld.other W_151 f_148 (Or.inr (slot_ne (Or.inl (w_11 hw)) (Or.inl (w_20 hw)) (by decide) (t := (.array .int)) (t' := .int) (by decide) (by decide)))
          have f_156 := f_149.other W_151 ne_ar_b
          have f_157 := A_144.other W_151 (Ne.symm ne_b_lr)
          refine o_return X_151 K d6_155 (by decide) (by decide) N_151 ?_
          rw [e_151]
          refine ⟨rfl, Z_151, Or.inr ⟨lr, (fun z => if z = n then q else F1 z), (sz + (1 : Int32)), g_lr, (Ne.symm ne_b_lr), ?_, f_152, f_153, f_155, f_154, ?_, fun j hj => ?_⟩⟩
          · have q1 := c_iadd sz 1; have q2 := rng32 (sz + 1); have q3 : (1 : Int32).toInt = 1 := rfl; omega
          · rw [if_neg hnl]; exact f_157.congr (fun z hz => by by_cases h1 : z = n <;> simp [h1])
          · by_cases h1 : j = n
            · dsimp only; rw [if_pos h1, if_pos h1]
            · dsimp only; rw [if_neg h1, if_neg h1]
              exact hgF j (by omega)
        · have hnl : n = len := by have q_ : sz.toInt = zl.toInt := (by rw [hc117]); omega
          refine o_aloadN X_141 K d6_120 121 rfl rfl rfl ?_
          refine o_aloadN X_141 K d6_121 122 rfl rfl rfl ?_
          refine o_getfield X_141 K (host := "") d6_122 125 rfl (Or.inl (w_17 hw)) Via.refl e_141 f_135 ?_
          intro T_158 X_158 e_158
          refine o_aloadN X_158 K d6_125 126 rfl rfl rfl ?_
          refine o_invokeprivate X_158 K d6_126 129 rfl (w_38 hw) (w_39 hw) (w_40 hw) (w_2 hw) (w_41 hw) (by decide) ⟨3, (w_1 hw)⟩ f_133 [] [(.ref lr), (.ref b)] rfl  (c_grown l Z a0 hw n0 b sz h_132 Z_132 f_134 (by omega)) e_158 rfl (lenOf pd___I rfl) (by decide) 2 (Nat.le_of_eq rfl) (by decide) (by decide) (by decide) N_132 ?_
          rintro _ T_159 h_159 locs_159 X_159 q_159 ⟨gv_159, rfl, hgv_159, r_159⟩ N_159
          have e_159 := q_159.trans r_159
          show OGo p e below s n0 _ _ _ (T_159.setTop (mkF m 129 #[.val (.ref b), .val (.long q), .second, .val (.int i1)] [(.int gv_159), (.ref lr), (.ref b)]))
          refine o_invokestatic X_159 K d6_129 132 rfl (w_64 hw) (w_65 hw) (w_23 hw) (w_66 hw) (by decide) [(.ref lr), (.int gv_159)] [(.ref b)] rfl  (c_copyJ l Z a0 hw n0 lr len (n + 1) F1 zl gv_159 hzl (by rw [hgv_159]; omega) h_132 Z_132 f_138 (by omega)) e_159 rfl (lenOf pd___JI__J rfl) (by decide) 1 (Nat.le_of_eq rfl) (by decide) (by decide) (by decide) N_159 ?_
          rintro _ T_160 h_160 locs_160 X_160 e_160 ⟨nr, rfl, k_160, gg_160_b, sz_160_b, p_160f0⟩ N_160
          have Z_160 : n0 ≤ h_160.size := Nat.le_trans Z_132 k_160.1
          have f_161 := Exa.keep f_133 k_160
          have f_162 := Fld.keep f_134 k_160 (nin0)
          have f_163 := Fld.keep f_135 k_160 (nin0)
          have f_164 := Fld.keep f_136 k_160 (nin0)
          have f_165 := f_137.keep k_160 (nin0)
          have f_166 := f_138.keep k_160 (nin0)
          have ne_b_nr : b ≠ nr := Nat.ne_of_lt (Nat.lt_of_lt_of_le f_133.lt sz_160_b)
          have ne_ar_nr : ar ≠ nr := Nat.ne_of_lt (Nat.lt_of_lt_of_le f_137.lt sz_160_b)
          have ne_lr_nr : lr ≠ nr := Nat.ne_of_lt (Nat.lt_of_lt_of_le f_138.lt sz_160_b)
          show OGo p e below s n0 _ _ _ (T_160.setTop (mkF m 132 #[.val (.ref b), .val (.long q), .second, .val (.int i1)] [(.ref nr), (.ref b)]))
          refine o_putfield X_160 K (host := "") (ty := (.array .long)) d6_132 135 rfl (Or.inl (w_17 hw)) Via.refl e_160 f_163 f_161 (Or.inl (w_18 hw)) (w_1 hw) (by decide) rfl rfl N_160 g_b ?_
          intro T_167 h_167 locs_167 X_167 e_167 W_167 N_167
          have Z_167 : n0 ≤ h_167.size := by rw [Wr.size W_167]; exact Z_160
          have f_168 := Exa.wr W_167 f_161
          have f_169 := Fld.other W_167 f_162 (Or.inr (slot_ne (Or.inl (w_20 hw)) (Or.inl (w_18 hw)) (by decide) (t := .int) (t' := (.array .long)) (by decide) (by decide)))
          have f_170 := Fld.same W_167 f_163
          have f_171 := Fld.other W_167 f_164 (Or.inr (slot_ne (Or.inl (w_11 hw)) (Or.inl (w_18 hw)) (by decide) (t := (.array .int)) (t' := (.array .long)) (by decide) (by decide)))
          have f_172 := f_165.other W_167 ne_ar_b
          have f_173 := f_166.other W_167 (Ne.symm ne_b_lr)
          have f_174 := p_160f0.other W_167 (Ne.symm ne_b_nr)
          refine o_aloadN X_167 K d6_135 136 rfl rfl rfl ?_
          refine o_getfield X_167 K (host := "") d6_136 139 rfl (Or.inl (w_17 hw)) Via.refl e_167 f_170 ?_
          intro T_175 X_175 e_175
          refine o_aloadN X_175 K d6_139 140 rfl rfl rfl ?_
          refine o_getfield X_175 K (host := "") d6_140 143 rfl (Or.inl (w_19 hw)) Via.refl e_175 f_169 ?_
          intro T_176 X_176 e_176
          refine o_lloadN X_176 K d6_143 144 rfl rfl ?_
          refine o_lastore X_176 K (i := n) (x' := q) d6_144 145 rfl e_176 f_174 (hsz) (by omega) (rfl) N_167 gg_160_b ?_
          intro T_177 h_177 locs_177 X_177 e_177 W_177 A_177 N_177
          have Z_177 : n0 ≤ h_177.size := by rw [Wr.size W_177]; exact Z_167
          have f_178 := Exa.wr W_177 f_168
          have f_179 := Fld.other W_177 f_169 (Or.inl ne_b_nr)
          have f_180 := Fld.other W_177 f_170 (Or.inl ne_b_nr)
          have f_181 := Fld.other W_177 f_171 (Or.inl ne_b_nr)
          have f_182 := f_172.other W_177 ne_ar_nr
          have f_183 := f_173.other W_177 ne_lr_nr
          refine o_aloadN X_177 K d6_145 146 rfl rfl rfl ?_
          refine o_dup X_177 K d6_146 147 rfl rfl ?_
          refine o_getfield X_177 K (host := "") d6_147 150 rfl (Or.inl (w_19 hw)) Via.refl e_177 f_179 ?_
          intro T_184 X_184 e_184
          refine o_iconst X_184 K (1 : Int32) d6_150 151 rfl rfl ?_
          refine o_iadd X_184 K d6_151 152 rfl ?_
          refine o_putfield X_184 K (host := "") (ty := .int) d6_152 155 rfl (Or.inl (w_19 hw)) Via.refl e_184 f_179 f_178 (Or.inl (w_20 hw)) (w_1 hw) (by decide) rfl rfl N_177 g_b ?_
          intro T_185 h_185 locs_185 X_185 e_185 W_185 N_185
          have Z_185 : n0 ≤ h_185.size := by rw [Wr.size W_185]; exact Z_177
          have f_186 := Exa.wr W_185 f_178
          have f_187 := Fld.same W_185 f_179
          have f_188 := Fld.other W_185 f_180 (Or.inr (slot_ne (Or.inl (w_18 hw)) (Or.inl (w_20 hw)) (by decide) (t := (.array .long)) (t' := .int) (by decide) (by decide)))
          have f_189 := Fld.other W_185 f_181 (Or.inr (slot_ne (Or.inl (w_11 hw)) (Or.inl (w_20 hw)) (by decide) (t := (.array .int)) (t' := .int) (by decide) (by decide)))
          have f_190 := f_182.other W_185 ne_ar_b
          have f_191 := f_183.other W_185 (Ne.symm ne_b_lr)
          have f_192 := A_177.other W_185 (Ne.symm ne_b_nr)
          refine o_return X_185 K d6_155 (by decide) (by decide) N_185 ?_
          rw [e_185]
          refine ⟨rfl, Z_185, Or.inr ⟨nr, (fun z => if z = n then q else (if z < n + 1 ∧ z < len then F1 z else 0)), (sz + (1 : Int32)), gg_160_b, (Ne.symm ne_b_nr), ?_, f_186, f_187, f_189, f_188, ?_, fun j hj => ?_⟩⟩
          · have q1 := c_iadd sz 1; have q2 := rng32 (sz + 1); have q3 : (1 : Int32).toInt = 1 := rfl; omega
          · rw [if_pos hnl]; exact f_192.congr (fun z hz => by by_cases h1 : z = n <;> by_cases h2 : z < n + 1 ∧ z < len <;> simp [h1, h2])
          · by_cases h1 : j = n
            · dsimp only; rw [if_pos h1, if_pos h1]
            · dsimp only; rw [if_neg h1, if_neg h1, if_pos (by omega)]
              exact hgF j (by omega)
      · rintro d ih ⟨T1, h1, locs1, i1, F1⟩ ⟨X1, e1, N1, Z1, E1, Fs1, Fl1, Fi1, A1, B1, hi0, hi1, hF⟩
        dsimp only at X1 e1 N1 Z1 E1 Fs1 Fl1 Fi1 A1 B1 hi0 hi1 hF
        show OGo p e below s n0 _ _ _ (T1.setTop (mkF m 28 #[.val (.ref b), .val (.long q), .second, .val (.int i1)] []))
        refine o_iloadN X1 K d6_28 29 rfl rfl ?_
        refine o_aloadN X1 K d6_29 30 rfl rfl rfl ?_
        refine o_getfield X1 K (host := "") d6_30 33 rfl (Or.inl (w_19 hw)) Via.refl e1 Fs1 ?_
        intro T_193 X_193 e_193
        refine o_icmp_ge_f X_193 K d6_33 36 rfl (by omega) ?_
        refine o_aloadN X_193 K d6_36 37 rfl rfl rfl ?_
        refine o_getfield X_193 K (host := "") d6_37 40 rfl (Or.inl (w_17 hw)) Via.refl e_193 Fl1 ?_
        intro T_194 X_194 e_194
        refine o_iloadN X_194 K d6_40 41 rfl rfl ?_
        refine o_aloadN X_194 K d6_41 42 rfl rfl rfl ?_
        refine o_getfield X_194 K (host := "") d6_42 45 rfl (Or.inl (w_10 hw)) Via.refl e_194 Fi1 ?_
        intro T_195 X_195 e_195
        refine o_iloadN X_195 K d6_45 46 rfl rfl ?_
        refine o_iaload X_195 K (i := i1.toInt.toNat) (v := (.int (f i1.toInt.toNat))) d6_46 47 rfl e_195 A1 (by omega) (by omega) (rfl) ?_
        refine o_i2l X_195 K d6_47 48 rfl ?_
        refine o_lastore X_195 K (i := i1.toInt.toNat) (x' := ((f i1.toInt.toNat).toInt64)) d6_48 49 rfl e_195 B1 (by omega) (by omega) (rfl) N1 g_lr ?_
        intro T_196 h_196 locs_196 X_196 e_196 W_196 A_196 N_196
        have Z_196 : n0 ≤ h_196.size := by rw [Wr.size W_196]; exact Z1
        have f_197 := Exa.wr W_196 E1
        have f_198 := Fld.other W_196 Fs1 (Or.inl ne_b_lr)
        have f_199 := Fld.other W_196 Fl1 (Or.inl ne_b_lr)
        have f_200 := Fld.other W_196 Fi1 (Or.inl ne_b_lr)
        have f_201 := A1.other W_196 ne_ar_lr
        obtain ⟨i2, h_i2⟩ : ∃ z_ : Int32, z_ = (i1 + (1 : Int32)) := ⟨_, rfl⟩
        refine o_iinc X_196 K d6_49 52 rfl #[.val (.ref b), .val (.long q), .second, .val (.int i2)] rfl h_i2.symm rfl ?_
        refine o_goto X_196 K d6_52 28 (by decide) (by decide) ?_
        have hi2 : i2.toInt = i1.toInt + 1 := by rw [h_i2]; have q1 := c_iadd i1 1; have q2 := rng32 (i1 + 1); omega
        refine ih (T_196, h_196, _, i2, (fun z => if z = i1.toInt.toNat then (f i1.toInt.toNat).toInt64 else F1 z)) ⟨X_196, e_196, N_196, Z_196, f_197, f_198, f_199, f_200, f_201, A_196.congr (fun z hz => by by_cases h1_ : z = i1.toInt.toNat <;> simp only [h1_, if_pos, if_neg, not_false_eq_true, if_true, if_false]), by show 0 ≤ i2.toInt; omega, by show i2.toInt + (d : Int) = _; omega, fun j hj => ?_⟩
        replace hj : (j : Int) < i2.toInt := hj
        show (if j = i1.toInt.toNat then (f i1.toInt.toNat).toInt64 else F1 j) = _
        by_cases h1_ : j = i1.toInt.toNat
        · rw [if_pos h1_, h1_]
        · rw [if_neg h1_]; exact hF j (by omega)
  · skip
    obtain ⟨ar, f, sz, g_ar, ne_ar_b, hsz, E_b, F_size, F_ints, F_longs, A_ar, hg⟩ := WL
    obtain ⟨zl, hzl⟩ : ∃ z_ : Int32, z_.toInt = (len : Int) := ⟨len.toInt32, o_len A_ar.len⟩
    refine o_aloadN X0 K d6_0 1 rfl rfl rfl ?_
    refine o_getfield X0 K (host := "") d6_1 4 rfl (Or.inl (w_17 hw)) Via.refl e0 F_longs ?_
    intro T_202 X_202 e_202
    refine o_ifnonnull_t X_202 K d6_4 60 (by decide) (by decide) ?_
    refine o_aloadN X_202 K d6_60 61 rfl rfl rfl ?_
    refine o_getfield X_202 K (host := "") d6_61 64 rfl (Or.inl (w_17 hw)) Via.refl e_202 F_longs ?_
    intro T_203 X_203 e_203
    refine o_ifnonnull_t X_203 K d6_64 108 (by decide) (by decide) ?_
    refine o_aloadN X_203 K d6_108 109 rfl rfl rfl ?_
    refine o_getfield X_203 K (host := "") d6_109 112 rfl (Or.inl (w_19 hw)) Via.refl e_203 F_size ?_
    intro T_204 X_204 e_204
    refine o_aloadN X_204 K d6_112 113 rfl rfl rfl ?_
    refine o_getfield X_204 K (host := "") d6_113 116 rfl (Or.inl (w_17 hw)) Via.refl e_204 F_longs ?_
    intro T_205 X_205 e_205
    refine o_arraylength X_205 K d6_116 117 rfl e_205 A_ar (v := zl) (hzl) ?_
    refine o_icmp_ne X_205 K d6_117 135 (by decide) (by decide) 120 rfl (fun hc117 => ?_) (fun hc117 => ?_)
    · have hnl : ¬ n = len := fun z_ => hc117 (Int32.toInt_inj.mp (by omega))
      refine o_aloadN X_205 K d6_135 136 rfl rfl rfl ?_
      refine o_getfield X_205 K (host := "") d6_136 139 rfl (Or.inl (w_17 hw)) Via.refl e_205 F_longs ?_
      intro T_206 X_206 e_206
      refine o_aloadN X_206 K d6_139 140 rfl rfl rfl ?_
      refine o_getfield X_206 K (host := "") d6_140 143 rfl (Or.inl (w_19 hw)) Via.refl e_206 F_size ?_
      intro T_207 X_207 e_207
      refine o_lloadN X_207 K d6_143 144 rfl rfl ?_
      refine o_lastore X_207 K (i := n) (x' := q) d6_144 145 rfl e_207 A_ar (hsz) (by omega) (rfl) N0 g_ar ?_
      intro T_208 h_208 locs_208 X_208 e_208 W_208 A_208 N_208
      have Z_208 : n0 ≤ h_208.size := by rw [Wr.size W_208]; exact Z0
      have f_209 := Exa.wr W_208 E_b
      have f_210 := Fld.other W_208 F_size (Or.inl (Ne.symm ne_ar_b))
      have f_211 := Fld.other W_208 F_longs (Or.inl (Ne.symm ne_ar_b))
      have f_212 := Fld.other W_208 F_ints (Or.inl (Ne.symm ne_ar_b))
      refine o_aloadN X_208 K d6_145 146 rfl rfl rfl ?_
      refine o_dup X_208 K d6_146 147 rfl rfl ?_
      refine o_getfield X_208 K (host := "") d6_147 150 rfl (Or.inl (w_19 hw)) Via.refl e_208 f_210 ?_
      intro T_213 X_213 e_213
      refine o_iconst X_213 K (1 : Int32) d6_150 151 rfl rfl ?_
      refine o_iadd X_213 K d6_151 152 rfl ?_
      refine o_putfield X_213 K (host := "") (ty := .int) d6_152 155 rfl (Or.inl (w_19 hw)) Via.refl e_213 f_210 f_209 (Or.inl (w_20 hw)) (w_1 hw) (by decide) rfl rfl N_208 g_b ?_
      intro T_214 h_214 locs_214 X_214 e_214 W_214 N_214
      have Z_214 : n0 ≤ h_214.size := by rw [Wr.size W_214]; exact Z_208
      have f_215 := Exa.wr W_214 f_209
      have f_216 := Fld.same W_214 f_210
      have f_217 := Fld.other W_214 f_211 (Or.inr (slot_ne (Or.inl (w_18 hw)) (Or.inl (w_20 hw)) (by decide) (t := (.array .long)) (t' := .int) (by decide) (by decide)))
      have f_218 := Fld.other W_214 f_212 (Or.inr (slot_ne (Or.inl (w_11 hw)) (Or.inl (w_20 hw)) (by decide) (t := (.array .int)) (t' := .int) (by decide) (by decide)))
      have f_219 := A_208.other W_214 ne_ar_b
      refine o_return X_214 K d6_155 (by decide) (by decide) N_214 ?_
      rw [e_214]
      refine ⟨rfl, Z_214, Or.inr ⟨ar, (fun z => if z = n then q else f z), (sz + (1 : Int32)), g_ar, ne_ar_b, ?_, f_215, f_216, f_218, f_217, ?_, fun j hj => ?_⟩⟩
      · have q1 := c_iadd sz 1; have q2 := rng32 (sz + 1); have q3 : (1 : Int32).toInt = 1 := rfl; omega
      · rw [if_neg hnl]; exact f_219.congr (fun z hz => by by_cases h1 : z = n <;> simp [h1])
      · by_cases h1 : j = n
        · dsimp only; rw [if_pos h1, if_pos h1]
        · dsimp only; rw [if_neg h1, if_neg h1]
          exact hg j (by omega)
    · have hnl : n = len := by have q_ : sz.toInt = zl.toInt := (by rw [hc117]); omega
      refine o_aloadN X_205 K d6_120 121 rfl rfl rfl ?_
      refine o_aloadN X_205 K d6_121 122 rfl rfl rfl ?_
      refine o_getfield X_205 K (host := "") d6_122 125 rfl (Or.inl (w_17 hw)) Via.refl e_205 F_longs ?_
      intro T_220 X_220 e_220
      refine o_aloadN X_220 K d6_125 126 rfl rfl rfl ?_
      refine o_invokeprivate X_220 K d6_126 129 rfl (w_38 hw) (w_39 hw) (w_40 hw) (w_2 hw) (w_41 hw) (by decide) ⟨3, (w_1 hw)⟩ E_b [] [(.ref ar), (.ref b)] rfl  (c_grown l Z a0 hw n0 b sz h0 Z0 F_size (by omega)) e_220 rfl (lenOf pd___I rfl) (by decide) 2 (Nat.le_of_eq rfl) (by decide) (by decide) (by decide) N0 ?_
      rintro _ T_221 h_221 locs_221 X_221 q_221 ⟨gv_221, rfl, hgv_221, r_221⟩ N_221
      have e_221 := q_221.trans r_221
      show OGo p e below s n0 _ _ _ (T_221.setTop (mkF m 129 #[.val (.ref b), .val (.long q), .second, .unset] [(.int gv_221), (.ref ar), (.ref b)]))
      refine o_invokestatic X_221 K d6_129 132 rfl (w_64 hw) (w_65 hw) (w_23 hw) (w_66 hw) (by decide) [(.ref ar), (.int gv_221)] [(.ref b)] rfl  (c_copyJ l Z a0 hw n0 ar len (n + 1) f zl gv_221 hzl (by rw [hgv_221]; omega) h0 Z0 A_ar (by omega)) e_221 rfl (lenOf pd___JI__J rfl) (by decide) 1 (Nat.le_of_eq rfl) (by decide) (by decide) (by decide) N_221 ?_
      rintro _ T_222 h_222 locs_222 X_222 e_222 ⟨nr, rfl, k_222, gg_222_b, sz_222_b, p_222f0⟩ N_222
      have Z_222 : n0 ≤ h_222.size := Nat.le_trans Z0 k_222.1
      have f_223 := Exa.keep E_b k_222
      have f_224 := Fld.keep F_size k_222 (nin0)
      have f_225 := Fld.keep F_longs k_222 (nin0)
      have f_226 := Fld.keep F_ints k_222 (nin0)
      have f_227 := A_ar.keep k_222 (nin0)
      have ne_b_nr : b ≠ nr := Nat.ne_of_lt (Nat.lt_of_lt_of_le E_b.lt sz_222_b)
      have ne_ar_nr : ar ≠ nr := Nat.ne_of_lt (Nat.lt_of_lt_of_le A_ar.lt sz_222_b)
      show OGo p e below s n0 _ _ _ (T_222.setTop (mkF m 132 #[.val (.ref b), .val (.long q), .second, .unset] [(.ref nr), (.ref b)]))
      refine o_putfield X_222 K (host := "") (ty := (.array .long)) d6_132 135 rfl (Or.inl (w_17 hw)) Via.refl e_222 f_225 f_223 (Or.inl (w_18 hw)) (w_1 hw) (by decide) rfl rfl N_222 g_b ?_
      intro T_228 h_228 locs_228 X_228 e_228 W_228 N_228
      have Z_228 : n0 ≤ h_228.size := by rw [Wr.size W_228]; exact Z_222
      have f_229 := Exa.wr W_228 f_223
      have f_230 := Fld.other W_228 f_224 (Or.inr (slot_ne (Or.inl (w_20 hw)) (Or.inl (w_18 hw)) (by decide) (t := .int) (t' := (.array .long)) (by decide) (by decide)))
      have f_231 := Fld.same W_228 f_225
      have f_232 := Fld.other W_228 f_226 (Or.inr (slot_ne (Or.inl (w_11 hw)) (Or.inl (w_18 hw)) (by decide) (t := (.array .int)) (t' := (.array .long)) (by decide) (by decide)))
      have f_233 := f_227.other W_228 ne_ar_b
      have f_234 := p_222f0.other W_228 (Ne.symm ne_b_nr)
      refine o_aloadN X_228 K d6_135 136 rfl rfl rfl ?_
      refine o_getfield X_228 K (host := "") d6_136 139 rfl (Or.inl (w_17 hw)) Via.refl e_228 f_231 ?_
      intro T_235 X_235 e_235
      refine o_aloadN X_235 K d6_139 140 rfl rfl rfl ?_
      refine o_getfield X_235 K (host := "") d6_140 143 rfl (Or.inl (w_19 hw)) Via.refl e_235 f_230 ?_
      intro T_236 X_236 e_236
      refine o_lloadN X_236 K d6_143 144 rfl rfl ?_
      refine o_lastore X_236 K (i := n) (x' := q) d6_144 145 rfl e_236 f_234 (hsz) (by omega) (rfl) N_228 gg_222_b ?_
      intro T_237 h_237 locs_237 X_237 e_237 W_237 A_237 N_237
      have Z_237 : n0 ≤ h_237.size := by rw [Wr.size W_237]; exact Z_228
      have f_238 := Exa.wr W_237 f_229
      have f_239 := Fld.other W_237 f_230 (Or.inl ne_b_nr)
      have f_240 := Fld.other W_237 f_231 (Or.inl ne_b_nr)
      have f_241 := Fld.other W_237 f_232 (Or.inl ne_b_nr)
      have f_242 := f_233.other W_237 ne_ar_nr
      refine o_aloadN X_237 K d6_145 146 rfl rfl rfl ?_
      refine o_dup X_237 K d6_146 147 rfl rfl ?_
      refine o_getfield X_237 K (host := "") d6_147 150 rfl (Or.inl (w_19 hw)) Via.refl e_237 f_239 ?_
      intro T_243 X_243 e_243
      refine o_iconst X_243 K (1 : Int32) d6_150 151 rfl rfl ?_
      refine o_iadd X_243 K d6_151 152 rfl ?_
      refine o_putfield X_243 K (host := "") (ty := .int) d6_152 155 rfl (Or.inl (w_19 hw)) Via.refl e_243 f_239 f_238 (Or.inl (w_20 hw)) (w_1 hw) (by decide) rfl rfl N_237 g_b ?_
      intro T_244 h_244 locs_244 X_244 e_244 W_244 N_244
      have Z_244 : n0 ≤ h_244.size := by rw [Wr.size W_244]; exact Z_237
      have f_245 := Exa.wr W_244 f_238
      have f_246 := Fld.same W_244 f_239
      have f_247 := Fld.other W_244 f_240 (Or.inr (slot_ne (Or.inl (w_18 hw)) (Or.inl (w_20 hw)) (by decide) (t := (.array .long)) (t' := .int) (by decide) (by decide)))
      have f_248 := Fld.other W_244 f_241 (Or.inr (slot_ne (Or.inl (w_11 hw)) (Or.inl (w_20 hw)) (by decide) (t := (.array .int)) (t' := .int) (by decide) (by decide)))
      have f_249 := f_242.other W_244 ne_ar_b
      have f_250 := A_237.other W_244 (Ne.symm ne_b_nr)
      refine o_return X_244 K d6_155 (by decide) (by decide) N_244 ?_
      rw [e_244]
      refine ⟨rfl, Z_244, Or.inr ⟨nr, (fun z => if z = n then q else (if z < n + 1 ∧ z < len then f z else 0)), (sz + (1 : Int32)), gg_222_b, (Ne.symm ne_b_nr), ?_, f_245, f_246, f_248, f_247, ?_, fun j hj => ?_⟩⟩
      · have q1 := c_iadd sz 1; have q2 := rng32 (sz + 1); have q3 : (1 : Int32).toInt = 1 := rfl; omega
      · rw [if_pos hnl]; exact f_250.congr (fun z hz => by by_cases h1 : z = n <;> by_cases h2 : z < n + 1 ∧ z < len <;> simp [h1, h2])
      · by_cases h1 : j = n
        · dsimp only; rw [if_pos h1, if_pos h1]
        · dsimp only; rw [if_neg h1, if_neg h1, if_pos (by omega)]
          exact hg j (by omega)
theorem own_four (k : Int32) (h : 0 ≤ k.toInt ∧ k.toInt ≤ 3) : k = 0 ∨ k = 1 ∨ k = 2 ∨ k = 3 := by
  have hz : ∀ z : Int32, k.toInt = z.toInt → k = z := fun z q => Int32.toInt_inj.mp q
  have l0 : (0 : Int32).toInt = 0 := rfl
  have l1 : (1 : Int32).toInt = 1 := rfl
  have l2 : (2 : Int32).toInt = 2 := rfl
  have l3 : (3 : Int32).toInt = 3 := rfl
  rcases (by omega : k.toInt = 0 ∨ k.toInt = 1 ∨ k.toInt = 2 ∨ k.toInt = 3) with q | q | q | q
  · exact Or.inl (hz _ q)
  · exact Or.inr (Or.inl (hz _ q))
  · exact Or.inr (Or.inr (Or.inl (hz _ q)))
  · exact Or.inr (Or.inr (Or.inr (hz _ q)))
theorem pd___V : parseMethodDescriptor "()V" = some ⟨[], none⟩ := by decide +kernel
theorem pd__J_V : parseMethodDescriptor "(J)V" = some ⟨[.long], none⟩ := by decide +kernel
theorem pd__I_J : parseMethodDescriptor "(I)J" = some ⟨[.int], some .long⟩ := by decide +kernel
theorem pn_0 : plainFor x = true := plainFor_of_name (by first | (simp [plainName, overriddenIn, x]; done) | decide +kernel)
set_option maxHeartbeats 4000000 in
theorem rm0 (l : Launch) (Z : State) (a0 : Array Value) (hw : OW Z a0) (n0 : Nat) (p0 p1 p2 : Int64) (p3 : Int32) (h0 : Heap) (Z0 : n0 ≤ h0.size) :
    OCon l Z n0 x code maxLocals ret room_1 #[(.long p0), (.long p1), (.long p2), (.int p3)] h0 (fun v _ => v = some (.int 1)) := by
  refine OCon.of (Ls := #[.val (.long p0), .second, .val (.long p1), .second, .val (.long p2), .second, .val (.int p3), .unset, .unset, .unset, .unset]) pn_0 rfl rfl (fun m => by first | (simp [entryFrame, mkF, argsToLocals, Value.category, maxLocals]; done) | rfl) ?_
  intro p e s m below meth c T0 X0 K e0
  have N0 := Fr.nil n0
  refine o_iload X0 K at_0 2 rfl rfl ?_
  refine o_iconst X0 K (3 : Int32) at_2 3 rfl rfl ?_
  refine o_iand X0 K at_3 4 rfl ?_
  obtain ⟨nn, h_nn⟩ : ∃ z_ : Int32, z_ = (p3 &&& (3 : Int32)) := ⟨_, rfl⟩
  refine o_istore X0 K at_4 6 rfl #[.val (.long p0), .second, .val (.long p1), .second, .val (.long p2), .second, .val (.int p3), .val (.int nn), .unset, .unset, .unset] h_nn.symm rfl ?_
  have hnn : 0 ≤ nn.toInt ∧ nn.toInt ≤ 3 := by rw [h_nn]; exact c_and _ _ (by decide)
  refine o_iload X0 K at_6 8 rfl rfl ?_
  refine o_iconst X0 K (2 : Int32) at_8 9 rfl rfl ?_
  refine o_iushr X0 K at_9 10 rfl ?_
  refine o_iconst X0 K (3 : Int32) at_10 11 rfl rfl ?_
  refine o_iand X0 K at_11 12 rfl ?_
  obtain ⟨ta, h_ta⟩ : ∃ z_ : Int32, z_ = (((p3.toUInt32 >>> ((2 : Int32) &&& 31).toUInt32).toInt32) &&& (3 : Int32)) := ⟨_, rfl⟩
  refine o_istore X0 K at_12 14 rfl #[.val (.long p0), .second, .val (.long p1), .second, .val (.long p2), .second, .val (.int p3), .val (.int nn), .val (.int ta), .unset, .unset] h_ta.symm rfl ?_
  refine o_new X0 K at_14 17 rfl (w_0 hw) (w_1 hw) (w_2 hw) e0 (by decide) (by decide) ?_
  intro T_251 h_251 b g_251 X_251 e_251 E_251 B_251 D_251
  have Z_251 : n0 ≤ h_251.size := Nat.le_trans Z0 E_251.1
  have g_b : n0 ≤ b := by rw [g_251]; exact Z0
  have F_ints__251 : Fld Z h_251 b "com/example/planwright/planwright/WholeNumbers" "ints" "[I" .null := D_251 (Or.inl (w_11 hw)) (ty := (.array .int)) (by decide)
  have F_longs__251 : Fld Z h_251 b "com/example/planwright/planwright/WholeNumbers" "longs" "[J" .null := D_251 (Or.inl (w_18 hw)) (ty := (.array .long)) (by decide)
  have F_size__251 : Fld Z h_251 b "com/example/planwright/planwright/WholeNumbers" "size" "I" (.int (0 : Int32)) := D_251 (Or.inl (w_20 hw)) (ty := .int) (by decide)
  refine o_dup X_251 K at_17 18 rfl rfl ?_
  refine o_invokespecial X_251 K at_18 21 rfl rfl (w_3 hw) (w_4 hw) (w_2 hw) (w_5 hw) (by decide) [] [(.ref b)] rfl  (c_init l Z a0 hw n0 b h_251 Z_251 B_251 F_size__251 F_longs__251 F_ints__251 g_b) e_251 rfl (lenOf pd___V rfl) (by decide) 1 (Nat.le_of_eq rfl) (by decide) (by decide) (by decide) N0 ?_
  rintro _ T_252 h_252 locs_252 X_252 e_252 ⟨rfl, W_252⟩ N_252
  have Z_252 := W_252.1
  show OGo p e below s n0 _ _ _ (T_252.setTop (mkF m 21 #[.val (.long p0), .second, .val (.long p1), .second, .val (.long p2), .second, .val (.int p3), .val (.int nn), .val (.int ta), .unset, .unset] [(.ref b)]))
  refine o_astore X_252 K at_21 23 rfl #[.val (.long p0), .second, .val (.long p1), .second, .val (.long p2), .second, .val (.int p3), .val (.int nn), .val (.int ta), .val (.ref b), .unset] rfl rfl ?_
  have hta : 0 ≤ ta.toInt ∧ ta.toInt ≤ 3 := by rw [h_ta]; exact c_and _ _ (by decide)
  clear h_ta h_nn
  rcases own_four nn hnn with rfl | rfl | rfl | rfl
  · skip
    rcases own_four ta hta with rfl | rfl | rfl | rfl
    · skip
      refine o_iload X_252 K at_23 25 rfl rfl ?_
      refine o_if_ne_f X_252 K at_25 28 rfl (by decide) ?_
      refine o_aload X_252 K at_28 30 rfl rfl rfl ?_
      refine o_invokevirtual X_252 K at_30 33 rfl (w_12 hw) (w_13 hw) (w_15 hw) (w_14 hw) (w_2 hw) (w_16 hw) (by decide) W_252.exa [] [] rfl  (c_trim l Z a0 hw n0 b 0 (fun _ => 0) 64 h_252 Z_252 W_252 g_b (by decide)) e_252 rfl (lenOf pd___V rfl) (by decide) 0 (Nat.le_of_eq rfl) (by decide) (by decide) (by decide) N_252 ?_
      rintro _ T_253 h_253 locs_253 X_253 e_253 ⟨rfl, W_253⟩ N_253
      have Z_253 := W_253.1
      show OGo p e below s n0 _ _ _ (T_253.setTop (mkF m 33 #[.val (.long p0), .second, .val (.long p1), .second, .val (.long p2), .second, .val (.int p3), .val (.int (0 : Int32)), .val (.int (0 : Int32)), .val (.ref b), .unset] []))
      refine o_iload X_253 K at_33 35 rfl rfl ?_
      refine o_if_le_t X_253 K at_35 44 (by decide) (by decide) (by decide) ?_
      refine o_iload X_253 K at_44 46 rfl rfl ?_
      refine o_iconst X_253 K (1 : Int32) at_46 47 rfl rfl ?_
      refine o_icmp_ne_t X_253 K at_47 55 (by decide) (by decide) (by decide) ?_
      refine o_iload X_253 K at_55 57 rfl rfl ?_
      refine o_iconst X_253 K (1 : Int32) at_57 58 rfl rfl ?_
      refine o_icmp_le_t X_253 K at_58 67 (by decide) (by decide) (by decide) ?_
      refine o_iload X_253 K at_67 69 rfl rfl ?_
      refine o_iconst X_253 K (2 : Int32) at_69 70 rfl rfl ?_
      refine o_icmp_ne_t X_253 K at_70 78 (by decide) (by decide) (by decide) ?_
      refine o_iload X_253 K at_78 80 rfl rfl ?_
      refine o_iconst X_253 K (2 : Int32) at_80 81 rfl rfl ?_
      refine o_icmp_le_t X_253 K at_81 91 (by decide) (by decide) (by decide) ?_
      refine o_iload X_253 K at_91 93 rfl rfl ?_
      refine o_iconst X_253 K (3 : Int32) at_93 94 rfl rfl ?_
      refine o_icmp_ne_t X_253 K at_94 102 (by decide) (by decide) (by decide) ?_
      refine o_aload X_253 K at_102 104 rfl rfl rfl ?_
      obtain ⟨sz, hsz, F_sz⟩ : ∃ sz : Int32, sz.toInt = (0 : Nat) ∧ Fld Z h_253 b "com/example/planwright/planwright/WholeNumbers" "size" "I" (.int sz) := by rcases W_253.2 with ⟨_, _, sz, -, -, h1, -, h2, -⟩ | ⟨_, _, sz, -, -, h1, -, h2, -⟩ <;> exact ⟨sz, h1, h2⟩
      refine o_invokevirtual X_253 K at_104 107 rfl (w_45 hw) (w_46 hw) (w_48 hw) (w_47 hw) (w_2 hw) (w_49 hw) (by decide) W_253.exa [] [] rfl  (c_size l Z a0 hw n0 b sz h_253 Z_253 F_sz) e_253 rfl (lenOf pd___I rfl) (by decide) 0 (Nat.le_of_eq rfl) (by decide) (by decide) (by decide) N_253 ?_
      rintro _ T_254 h_254 locs_254 X_254 q_254 ⟨rfl, r_254⟩ N_254
      have e_254 := q_254.trans r_254
      show OGo p e below s n0 _ _ _ (T_254.setTop (mkF m 107 #[.val (.long p0), .second, .val (.long p1), .second, .val (.long p2), .second, .val (.int p3), .val (.int (0 : Int32)), .val (.int (0 : Int32)), .val (.ref b), .unset] [(.int sz)]))
      refine o_iload X_254 K at_107 109 rfl rfl ?_
      refine o_icmp_ne_f X_254 K at_109 112 rfl (Int32.toInt_inj.mp (by rw [hsz]; rfl)) ?_
      refine o_iconst X_254 K (1 : Int32) at_112 113 rfl rfl ?_
      refine o_goto X_254 K at_113 117 (by decide) (by decide) ?_
      refine o_istore X_254 K at_117 119 rfl #[.val (.long p0), .second, .val (.long p1), .second, .val (.long p2), .second, .val (.int p3), .val (.int (0 : Int32)), .val (.int (0 : Int32)), .val (.ref b), .val (.int (1 : Int32))] rfl rfl ?_
      refine o_iload X_254 K at_119 121 rfl rfl ?_
      refine o_if_eq_f X_254 K at_121 124 rfl (by decide) ?_
      refine o_iload X_254 K at_124 126 rfl rfl ?_
      refine o_if_le_t X_254 K at_126 147 (by decide) (by decide) (by decide) ?_
      refine o_iload X_254 K at_147 149 rfl rfl ?_
      refine o_if_eq_f X_254 K at_149 152 rfl (by decide) ?_
      refine o_iload X_254 K at_152 154 rfl rfl ?_
      refine o_iconst X_254 K (1 : Int32) at_154 155 rfl rfl ?_
      refine o_icmp_le_t X_254 K at_155 176 (by decide) (by decide) (by decide) ?_
      refine o_iload X_254 K at_176 178 rfl rfl ?_
      refine o_if_eq_f X_254 K at_178 181 rfl (by decide) ?_
      refine o_iload X_254 K at_181 183 rfl rfl ?_
      refine o_iconst X_254 K (2 : Int32) at_183 184 rfl rfl ?_
      refine o_icmp_le_t X_254 K at_184 206 (by decide) (by decide) (by decide) ?_
      refine o_iload X_254 K at_206 208 rfl rfl ?_
      refine o_ireturnN X_254 K (by decide) at_208 (by decide) (by decide) N_254 ?_
      exact rfl
    · skip
      refine o_iload X_252 K at_23 25 rfl rfl ?_
      refine o_if_ne_t X_252 K at_25 33 (by decide) (by decide) (by decide) ?_
      refine o_iload X_252 K at_33 35 rfl rfl ?_
      refine o_if_le_t X_252 K at_35 44 (by decide) (by decide) (by decide) ?_
      refine o_iload X_252 K at_44 46 rfl rfl ?_
      refine o_iconst X_252 K (1 : Int32) at_46 47 rfl rfl ?_
      refine o_icmp_ne_f X_252 K at_47 50 rfl (by decide) ?_
      refine o_aload X_252 K at_50 52 rfl rfl rfl ?_
      refine o_invokevirtual X_252 K at_52 55 rfl (w_12 hw) (w_13 hw) (w_15 hw) (w_14 hw) (w_2 hw) (w_16 hw) (by decide) W_252.exa [] [] rfl  (c_trim l Z a0 hw n0 b 0 (fun _ => 0) 64 h_252 Z_252 W_252 g_b (by decide)) e_252 rfl (lenOf pd___V rfl) (by decide) 0 (Nat.le_of_eq rfl) (by decide) (by decide) (by decide) N_252 ?_
      rintro _ T_255 h_255 locs_255 X_255 e_255 ⟨rfl, W_255⟩ N_255
      have Z_255 := W_255.1
      show OGo p e below s n0 _ _ _ (T_255.setTop (mkF m 55 #[.val (.long p0), .second, .val (.long p1), .second, .val (.long p2), .second, .val (.int p3), .val (.int (0 : Int32)), .val (.int (1 : Int32)), .val (.ref b), .unset] []))
      refine o_iload X_255 K at_55 57 rfl rfl ?_
      refine o_iconst X_255 K (1 : Int32) at_57 58 rfl rfl ?_
      refine o_icmp_le_t X_255 K at_58 67 (by decide) (by decide) (by decide) ?_
      refine o_iload X_255 K at_67 69 rfl rfl ?_
      refine o_iconst X_255 K (2 : Int32) at_69 70 rfl rfl ?_
      refine o_icmp_ne_t X_255 K at_70 78 (by decide) (by decide) (by decide) ?_
      refine o_iload X_255 K at_78 80 rfl rfl ?_
      refine o_iconst X_255 K (2 : Int32) at_80 81 rfl rfl ?_
      refine o_icmp_le_t X_255 K at_81 91 (by decide) (by decide) (by decide) ?_
      refine o_iload X_255 K at_91 93 rfl rfl ?_
      refine o_iconst X_255 K (3 : Int32) at_93 94 rfl rfl ?_
      refine o_icmp_ne_t X_255 K at_94 102 (by decide) (by decide) (by decide) ?_
      refine o_aload X_255 K at_102 104 rfl rfl rfl ?_
      obtain ⟨sz, hsz, F_sz⟩ : ∃ sz : Int32, sz.toInt = (0 : Nat) ∧ Fld Z h_255 b "com/example/planwright/planwright/WholeNumbers" "size" "I" (.int sz) := by rcases W_255.2 with ⟨_, _, sz, -, -, h1, -, h2, -⟩ | ⟨_, _, sz, -, -, h1, -, h2, -⟩ <;> exact ⟨sz, h1, h2⟩
      refine o_invokevirtual X_255 K at_104 107 rfl (w_45 hw) (w_46 hw) (w_48 hw) (w_47 hw) (w_2 hw) (w_49 hw) (by decide) W_255.exa [] [] rfl  (c_size l Z a0 hw n0 b sz h_255 Z_255 F_sz) e_255 rfl (lenOf pd___I rfl) (by decide) 0 (Nat.le_of_eq rfl) (by decide) (by decide) (by decide) N_255 ?_
      rintro _ T_256 h_256 locs_256 X_256 q_256 ⟨rfl, r_256⟩ N_256
      have e_256 := q_256.trans r_256
      show OGo p e below s n0 _ _ _ (T_256.setTop (mkF m 107 #[.val (.long p0), .second, .val (.long p1), .second, .val (.long p2), .second, .val (.int p3), .val (.int (0 : Int32)), .val (.int (1 : Int32)), .val (.ref b), .unset] [(.int sz)]))
      refine o_iload X_256 K at_107 109 rfl rfl ?_
      refine o_icmp_ne_f X_256 K at_109 112 rfl (Int32.toInt_inj.mp (by rw [hsz]; rfl)) ?_
      refine o_iconst X_256 K (1 : Int32) at_112 113 rfl rfl ?_
      refine o_goto X_256 K at_113 117 (by decide) (by decide) ?_
      refine o_istore X_256 K at_117 119 rfl #[.val (.long p0), .second, .val (.long p1), .second, .val (.long p2), .second, .val (.int p3), .val (.int (0 : Int32)), .val (.int (1 : Int32)), .val (.ref b), .val (.int (1 : Int32))] rfl rfl ?_
      refine o_iload X_256 K at_119 121 rfl rfl ?_
      refine o_if_eq_f X_256 K at_121 124 rfl (by decide) ?_
      refine o_iload X_256 K at_124 126 rfl rfl ?_
      refine o_if_le_t X_256 K at_126 147 (by decide) (by decide) (by decide) ?_
      refine o_iload X_256 K at_147 149 rfl rfl ?_
      refine o_if_eq_f X_256 K at_149 152 rfl (by decide) ?_
      refine o_iload X_256 K at_152 154 rfl rfl ?_
      refine o_iconst X_256 K (1 : Int32) at_154 155 rfl rfl ?_
      refine o_icmp_le_t X_256 K at_155 176 (by decide) (by decide) (by decide) ?_
      refine o_iload X_256 K at_176 178 rfl rfl ?_
      refine o_if_eq_f X_256 K at_178 181 rfl (by decide) ?_
      refine o_iload X_256 K at_181 183 rfl rfl ?_
      refine o_iconst X_256 K (2 : Int32) at_183 184 rfl rfl ?_
      refine o_icmp_le_t X_256 K at_184 206 (by decide) (by decide) (by decide) ?_
      refine o_iload X_256 K at_206 208 rfl rfl ?_
      refine o_ireturnN X_256 K (by decide) at_208 (by decide) (by decide) N_256 ?_
      exact rfl
    · skip
      refine o_iload X_252 K at_23 25 rfl rfl ?_
      refine o_if_ne_t X_252 K at_25 33 (by decide) (by decide) (by decide) ?_
      refine o_iload X_252 K at_33 35 rfl rfl ?_
      refine o_if_le_t X_252 K at_35 44 (by decide) (by decide) (by decide) ?_
      refine o_iload X_252 K at_44 46 rfl rfl ?_
      refine o_iconst X_252 K (1 : Int32) at_46 47 rfl rfl ?_
      refine o_icmp_ne_t X_252 K at_47 55 (by decide) (by decide) (by decide) ?_
      refine o_iload X_252 K at_55 57 rfl rfl ?_
      refine o_iconst X_252 K (1 : Int32) at_57 58 rfl rfl ?_
      refine o_icmp_le_t X_252 K at_58 67 (by decide) (by decide) (by decide) ?_
      refine o_iload X_252 K at_67 69 rfl rfl ?_
      refine o_iconst X_252 K (2 : Int32) at_69 70 rfl rfl ?_
      refine o_icmp_ne_f X_252 K at_70 73 rfl (by decide) ?_
      refine o_aload X_252 K at_73 75 rfl rfl rfl ?_
      refine o_invokevirtual X_252 K at_75 78 rfl (w_12 hw) (w_13 hw) (w_15 hw) (w_14 hw) (w_2 hw) (w_16 hw) (by decide) W_252.exa [] [] rfl  (c_trim l Z a0 hw n0 b 0 (fun _ => 0) 64 h_252 Z_252 W_252 g_b (by decide)) e_252 rfl (lenOf pd___V rfl) (by decide) 0 (Nat.le_of_eq rfl) (by decide) (by decide) (by decide) N_252 ?_
      rintro _ T_257 h_257 locs_257 X_257 e_257 ⟨rfl, W_257⟩ N_257
      have Z_257 := W_257.1
      show OGo p e below s n0 _ _ _ (T_257.setTop (mkF m 78 #[.val (.long p0), .second, .val (.long p1), .second, .val (.long p2), .second, .val (.int p3), .val (.int (0 : Int32)), .val (.int (2 : Int32)), .val (.ref b), .unset] []))
      refine o_iload X_257 K at_78 80 rfl rfl ?_
      refine o_iconst X_257 K (2 : Int32) at_80 81 rfl rfl ?_
      refine o_icmp_le_t X_257 K at_81 91 (by decide) (by decide) (by decide) ?_
      refine o_iload X_257 K at_91 93 rfl rfl ?_
      refine o_iconst X_257 K (3 : Int32) at_93 94 rfl rfl ?_
      refine o_icmp_ne_t X_257 K at_94 102 (by decide) (by decide) (by decide) ?_
      refine o_aload X_257 K at_102 104 rfl rfl rfl ?_
      obtain ⟨sz, hsz, F_sz⟩ : ∃ sz : Int32, sz.toInt = (0 : Nat) ∧ Fld Z h_257 b "com/example/planwright/planwright/WholeNumbers" "size" "I" (.int sz) := by rcases W_257.2 with ⟨_, _, sz, -, -, h1, -, h2, -⟩ | ⟨_, _, sz, -, -, h1, -, h2, -⟩ <;> exact ⟨sz, h1, h2⟩
      refine o_invokevirtual X_257 K at_104 107 rfl (w_45 hw) (w_46 hw) (w_48 hw) (w_47 hw) (w_2 hw) (w_49 hw) (by decide) W_257.exa [] [] rfl  (c_size l Z a0 hw n0 b sz h_257 Z_257 F_sz) e_257 rfl (lenOf pd___I rfl) (by decide) 0 (Nat.le_of_eq rfl) (by decide) (by decide) (by decide) N_257 ?_
      rintro _ T_258 h_258 locs_258 X_258 q_258 ⟨rfl, r_258⟩ N_258
      have e_258 := q_258.trans r_258
      show OGo p e below s n0 _ _ _ (T_258.setTop (mkF m 107 #[.val (.long p0), .second, .val (.long p1), .second, .val (.long p2), .second, .val (.int p3), .val (.int (0 : Int32)), .val (.int (2 : Int32)), .val (.ref b), .unset] [(.int sz)]))
      refine o_iload X_258 K at_107 109 rfl rfl ?_
      refine o_icmp_ne_f X_258 K at_109 112 rfl (Int32.toInt_inj.mp (by rw [hsz]; rfl)) ?_
      refine o_iconst X_258 K (1 : Int32) at_112 113 rfl rfl ?_
      refine o_goto X_258 K at_113 117 (by decide) (by decide) ?_
      refine o_istore X_258 K at_117 119 rfl #[.val (.long p0), .second, .val (.long p1), .second, .val (.long p2), .second, .val (.int p3), .val (.int (0 : Int32)), .val (.int (2 : Int32)), .val (.ref b), .val (.int (1 : Int32))] rfl rfl ?_
      refine o_iload X_258 K at_119 121 rfl rfl ?_
      refine o_if_eq_f X_258 K at_121 124 rfl (by decide) ?_
      refine o_iload X_258 K at_124 126 rfl rfl ?_
      refine o_if_le_t X_258 K at_126 147 (by decide) (by decide) (by decide) ?_
      refine o_iload X_258 K at_147 149 rfl rfl ?_
      refine o_if_eq_f X_258 K at_149 152 rfl (by decide) ?_
      refine o_iload X_258 K at_152 154 rfl rfl ?_
      refine o_iconst X_258 K (1 : Int32) at_154 155 rfl rfl ?_
      refine o_icmp_le_t X_258 K at_155 176 (by decide) (by decide) (by decide) ?_
      refine o_iload X_258 K at_176 178 rfl rfl ?_
      refine o_if_eq_f X_258 K at_178 181 rfl (by decide) ?_
      refine o_iload X_258 K at_181 183 rfl rfl ?_
      refine o_iconst X_258 K (2 : Int32) at_183 184 rfl rfl ?_
      refine o_icmp_le_t X_258 K at_184 206 (by decide) (by decide) (by decide) ?_
      refine o_iload X_258 K at_206 208 rfl rfl ?_
      refine o_ireturnN X_258 K (by decide) at_208 (by decide) (by decide) N_258 ?_
      exact rfl
    · skip
      refine o_iload X_252 K at_23 25 rfl rfl ?_
      refine o_if_ne_t X_252 K at_25 33 (by decide) (by decide) (by decide) ?_
      refine o_iload X_252 K at_33 35 rfl rfl ?_
      refine o_if_le_t X_252 K at_35 44 (by decide) (by decide) (by decide) ?_
      refine o_iload X_252 K at_44 46 rfl rfl ?_
      refine o_iconst X_252 K (1 : Int32) at_46 47 rfl rfl ?_
      refine o_icmp_ne_t X_252 K at_47 55 (by decide) (by decide) (by decide) ?_
      refine o_iload X_252 K at_55 57 rfl rfl ?_
      refine o_iconst X_252 K (1 : Int32) at_57 58 rfl rfl ?_
      refine o_icmp_le_t X_252 K at_58 67 (by decide) (by decide) (by decide) ?_
      refine o_iload X_252 K at_67 69 rfl rfl ?_
      refine o_iconst X_252 K (2 : Int32) at_69 70 rfl rfl ?_
      refine o_icmp_ne_t X_252 K at_70 78 (by decide) (by decide) (by decide) ?_
      refine o_iload X_252 K at_78 80 rfl rfl ?_
      refine o_iconst X_252 K (2 : Int32) at_80 81 rfl rfl ?_
      refine o_icmp_le_t X_252 K at_81 91 (by decide) (by decide) (by decide) ?_
      refine o_iload X_252 K at_91 93 rfl rfl ?_
      refine o_iconst X_252 K (3 : Int32) at_93 94 rfl rfl ?_
      refine o_icmp_ne_f X_252 K at_94 97 rfl (by decide) ?_
      refine o_aload X_252 K at_97 99 rfl rfl rfl ?_
      refine o_invokevirtual X_252 K at_99 102 rfl (w_12 hw) (w_13 hw) (w_15 hw) (w_14 hw) (w_2 hw) (w_16 hw) (by decide) W_252.exa [] [] rfl  (c_trim l Z a0 hw n0 b 0 (fun _ => 0) 64 h_252 Z_252 W_252 g_b (by decide)) e_252 rfl (lenOf pd___V rfl) (by decide) 0 (Nat.le_of_eq rfl) (by decide) (by decide) (by decide) N_252 ?_
      rintro _ T_259 h_259 locs_259 X_259 e_259 ⟨rfl, W_259⟩ N_259
      have Z_259 := W_259.1
      show OGo p e below s n0 _ _ _ (T_259.setTop (mkF m 102 #[.val (.long p0), .second, .val (.long p1), .second, .val (.long p2), .second, .val (.int p3), .val (.int (0 : Int32)), .val (.int (3 : Int32)), .val (.ref b), .unset] []))
      refine o_aload X_259 K at_102 104 rfl rfl rfl ?_
      obtain ⟨sz, hsz, F_sz⟩ : ∃ sz : Int32, sz.toInt = (0 : Nat) ∧ Fld Z h_259 b "com/example/planwright/planwright/WholeNumbers" "size" "I" (.int sz) := by rcases W_259.2 with ⟨_, _, sz, -, -, h1, -, h2, -⟩ | ⟨_, _, sz, -, -, h1, -, h2, -⟩ <;> exact ⟨sz, h1, h2⟩
      refine o_invokevirtual X_259 K at_104 107 rfl (w_45 hw) (w_46 hw) (w_48 hw) (w_47 hw) (w_2 hw) (w_49 hw) (by decide) W_259.exa [] [] rfl  (c_size l Z a0 hw n0 b sz h_259 Z_259 F_sz) e_259 rfl (lenOf pd___I rfl) (by decide) 0 (Nat.le_of_eq rfl) (by decide) (by decide) (by decide) N_259 ?_
      rintro _ T_260 h_260 locs_260 X_260 q_260 ⟨rfl, r_260⟩ N_260
      have e_260 := q_260.trans r_260
      show OGo p e below s n0 _ _ _ (T_260.setTop (mkF m 107 #[.val (.long p0), .second, .val (.long p1), .second, .val (.long p2), .second, .val (.int p3), .val (.int (0 : Int32)), .val (.int (3 : Int32)), .val (.ref b), .unset] [(.int sz)]))
      refine o_iload X_260 K at_107 109 rfl rfl ?_
      refine o_icmp_ne_f X_260 K at_109 112 rfl (Int32.toInt_inj.mp (by rw [hsz]; rfl)) ?_
      refine o_iconst X_260 K (1 : Int32) at_112 113 rfl rfl ?_
      refine o_goto X_260 K at_113 117 (by decide) (by decide) ?_
      refine o_istore X_260 K at_117 119 rfl #[.val (.long p0), .second, .val (.long p1), .second, .val (.long p2), .second, .val (.int p3), .val (.int (0 : Int32)), .val (.int (3 : Int32)), .val (.ref b), .val (.int (1 : Int32))] rfl rfl ?_
      refine o_iload X_260 K at_119 121 rfl rfl ?_
      refine o_if_eq_f X_260 K at_121 124 rfl (by decide) ?_
      refine o_iload X_260 K at_124 126 rfl rfl ?_
      refine o_if_le_t X_260 K at_126 147 (by decide) (by decide) (by decide) ?_
      refine o_iload X_260 K at_147 149 rfl rfl ?_
      refine o_if_eq_f X_260 K at_149 152 rfl (by decide) ?_
      refine o_iload X_260 K at_152 154 rfl rfl ?_
      refine o_iconst X_260 K (1 : Int32) at_154 155 rfl rfl ?_
      refine o_icmp_le_t X_260 K at_155 176 (by decide) (by decide) (by decide) ?_
      refine o_iload X_260 K at_176 178 rfl rfl ?_
      refine o_if_eq_f X_260 K at_178 181 rfl (by decide) ?_
      refine o_iload X_260 K at_181 183 rfl rfl ?_
      refine o_iconst X_260 K (2 : Int32) at_183 184 rfl rfl ?_
      refine o_icmp_le_t X_260 K at_184 206 (by decide) (by decide) (by decide) ?_
      refine o_iload X_260 K at_206 208 rfl rfl ?_
      refine o_ireturnN X_260 K (by decide) at_208 (by decide) (by decide) N_260 ?_
      exact rfl
  · skip
    rcases own_four ta hta with rfl | rfl | rfl | rfl
    · skip
      refine o_iload X_252 K at_23 25 rfl rfl ?_
      refine o_if_ne_f X_252 K at_25 28 rfl (by decide) ?_
      refine o_aload X_252 K at_28 30 rfl rfl rfl ?_
      refine o_invokevirtual X_252 K at_30 33 rfl (w_12 hw) (w_13 hw) (w_15 hw) (w_14 hw) (w_2 hw) (w_16 hw) (by decide) W_252.exa [] [] rfl  (c_trim l Z a0 hw n0 b 0 (fun _ => 0) 64 h_252 Z_252 W_252 g_b (by decide)) e_252 rfl (lenOf pd___V rfl) (by decide) 0 (Nat.le_of_eq rfl) (by decide) (by decide) (by decide) N_252 ?_
      rintro _ T_261 h_261 locs_261 X_261 e_261 ⟨rfl, W_261⟩ N_261
      have Z_261 := W_261.1
      show OGo p e below s n0 _ _ _ (T_261.setTop (mkF m 33 #[.val (.long p0), .second, .val (.long p1), .second, .val (.long p2), .second, .val (.int p3), .val (.int (1 : Int32)), .val (.int (0 : Int32)), .val (.ref b), .unset] []))
      refine o_iload X_261 K at_33 35 rfl rfl ?_
      refine o_if_le_f X_261 K at_35 38 rfl (by decide) ?_
      refine o_aload X_261 K at_38 40 rfl rfl rfl ?_
      refine o_lloadN X_261 K at_40 41 rfl rfl ?_
      refine o_invokevirtual X_261 K at_41 44 rfl (w_33 hw) (w_34 hw) (w_36 hw) (w_35 hw) (w_2 hw) (w_37 hw) (by decide) W_261.exa [(.long p0)] [] rfl  (c_add l Z a0 hw n0 b 0 (fun _ => 0) 0 p0 h_261 Z_261 W_261 g_b (by decide)) e_261 rfl (lenOf pd__J_V rfl) (by decide) 0 (Nat.le_of_eq rfl) (by decide) (by decide) (by decide) N_261 ?_
      rintro _ T_262 h_262 locs_262 X_262 e_262 ⟨rfl, W_262⟩ N_262
      have Z_262 := W_262.1
      replace W_262 : own_W Z h_262 n0 b 1 (fun j => if j = 0 then p0 else (fun _ => 0) j) 1 := W_262
      show OGo p e below s n0 _ _ _ (T_262.setTop (mkF m 44 #[.val (.long p0), .second, .val (.long p1), .second, .val (.long p2), .second, .val (.int p3), .val (.int (1 : Int32)), .val (.int (0 : Int32)), .val (.ref b), .unset] []))
      refine o_iload X_262 K at_44 46 rfl rfl ?_
      refine o_iconst X_262 K (1 : Int32) at_46 47 rfl rfl ?_
      refine o_icmp_ne_t X_262 K at_47 55 (by decide) (by decide) (by decide) ?_
      refine o_iload X_262 K at_55 57 rfl rfl ?_
      refine o_iconst X_262 K (1 : Int32) at_57 58 rfl rfl ?_
      refine o_icmp_le_t X_262 K at_58 67 (by decide) (by decide) (by decide) ?_
      refine o_iload X_262 K at_67 69 rfl rfl ?_
      refine o_iconst X_262 K (2 : Int32) at_69 70 rfl rfl ?_
      refine o_icmp_ne_t X_262 K at_70 78 (by decide) (by decide) (by decide) ?_
      refine o_iload X_262 K at_78 80 rfl rfl ?_
      refine o_iconst X_262 K (2 : Int32) at_80 81 rfl rfl ?_
      refine o_icmp_le_t X_262 K at_81 91 (by decide) (by decide) (by decide) ?_
      refine o_iload X_262 K at_91 93 rfl rfl ?_
      refine o_iconst X_262 K (3 : Int32) at_93 94 rfl rfl ?_
      refine o_icmp_ne_t X_262 K at_94 102 (by decide) (by decide) (by decide) ?_
      refine o_aload X_262 K at_102 104 rfl rfl rfl ?_
      obtain ⟨sz, hsz, F_sz⟩ : ∃ sz : Int32, sz.toInt = (1 : Nat) ∧ Fld Z h_262 b "com/example/planwright/planwright/WholeNumbers" "size" "I" (.int sz) := by rcases W_262.2 with ⟨_, _, sz, -, -, h1, -, h2, -⟩ | ⟨_, _, sz, -, -, h1, -, h2, -⟩ <;> exact ⟨sz, h1, h2⟩
      refine o_invokevirtual X_262 K at_104 107 rfl (w_45 hw) (w_46 hw) (w_48 hw) (w_47 hw) (w_2 hw) (w_49 hw) (by decide) W_262.exa [] [] rfl  (c_size l Z a0 hw n0 b sz h_262 Z_262 F_sz) e_262 rfl (lenOf pd___I rfl) (by decide) 0 (Nat.le_of_eq rfl) (by decide) (by decide) (by decide) N_262 ?_
      rintro _ T_263 h_263 locs_263 X_263 q_263 ⟨rfl, r_263⟩ N_263
      have e_263 := q_263.trans r_263
      show OGo p e below s n0 _ _ _ (T_263.setTop (mkF m 107 #[.val (.long p0), .second, .val (.long p1), .second, .val (.long p2), .second, .val (.int p3), .val (.int (1 : Int32)), .val (.int (0 : Int32)), .val (.ref b), .unset] [(.int sz)]))
      refine o_iload X_263 K at_107 109 rfl rfl ?_
      refine o_icmp_ne_f X_263 K at_109 112 rfl (Int32.toInt_inj.mp (by rw [hsz]; rfl)) ?_
      refine o_iconst X_263 K (1 : Int32) at_112 113 rfl rfl ?_
      refine o_goto X_263 K at_113 117 (by decide) (by decide) ?_
      refine o_istore X_263 K at_117 119 rfl #[.val (.long p0), .second, .val (.long p1), .second, .val (.long p2), .second, .val (.int p3), .val (.int (1 : Int32)), .val (.int (0 : Int32)), .val (.ref b), .val (.int (1 : Int32))] rfl rfl ?_
      refine o_iload X_263 K at_119 121 rfl rfl ?_
      refine o_if_eq_f X_263 K at_121 124 rfl (by decide) ?_
      refine o_iload X_263 K at_124 126 rfl rfl ?_
      refine o_if_le_f X_263 K at_126 129 rfl (by decide) ?_
      refine o_aload X_263 K at_129 131 rfl rfl rfl ?_
      refine o_iconst X_263 K (0 : Int32) at_131 132 rfl rfl ?_
      refine o_invokevirtual X_263 K at_132 135 rfl (w_50 hw) (w_51 hw) (w_53 hw) (w_52 hw) (w_2 hw) (w_54 hw) (by decide) W_262.exa [(.int (0 : Int32))] [] rfl  (c_get l Z a0 hw n0 b 1 (fun j => if j = 0 then p0 else (fun _ => 0) j) 1 (0 : Int32) 0 h_262 Z_262 W_262 (by decide)) e_263 rfl (lenOf pd__I_J rfl) (by decide) 0 (Nat.le_of_eq rfl) (by decide) (by decide) (by decide) N_263 ?_
      rintro _ T_264 h_264 locs_264 X_264 q_264 ⟨rfl, r_264⟩ N_264
      have e_264 := q_264.trans r_264
      show OGo p e below s n0 _ _ _ (T_264.setTop (mkF m 135 #[.val (.long p0), .second, .val (.long p1), .second, .val (.long p2), .second, .val (.int p3), .val (.int (1 : Int32)), .val (.int (0 : Int32)), .val (.ref b), .val (.int (1 : Int32))] [(.long p0)]))
      refine o_lloadN X_264 K at_135 136 rfl rfl ?_
      refine o_lcmp X_264 K at_136 137 rfl ?_
      refine o_if_ne_f X_264 K at_137 140 rfl ((lw_eq _ _).mpr rfl) ?_
      refine o_iconst X_264 K (1 : Int32) at_140 141 rfl rfl ?_
      refine o_goto X_264 K at_141 145 (by decide) (by decide) ?_
      refine o_istore X_264 K at_145 147 rfl #[.val (.long p0), .second, .val (.long p1), .second, .val (.long p2), .second, .val (.int p3), .val (.int (1 : Int32)), .val (.int (0 : Int32)), .val (.ref b), .val (.int (1 : Int32))] rfl rfl ?_
      refine o_iload X_264 K at_147 149 rfl rfl ?_
      refine o_if_eq_f X_264 K at_149 152 rfl (by decide) ?_
      refine o_iload X_264 K at_152 154 rfl rfl ?_
      refine o_iconst X_264 K (1 : Int32) at_154 155 rfl rfl ?_
      refine o_icmp_le_t X_264 K at_155 176 (by decide) (by decide) (by decide) ?_
      refine o_iload X_264 K at_176 178 rfl rfl ?_
      refine o_if_eq_f X_264 K at_178 181 rfl (by decide) ?_
      refine o_iload X_264 K at_181 183 rfl rfl ?_
      refine o_iconst X_264 K (2 : Int32) at_183 184 rfl rfl ?_
      refine o_icmp_le_t X_264 K at_184 206 (by decide) (by decide) (by decide) ?_
      refine o_iload X_264 K at_206 208 rfl rfl ?_
      refine o_ireturnN X_264 K (by decide) at_208 (by decide) (by decide) N_264 ?_
      exact rfl
    · skip
      refine o_iload X_252 K at_23 25 rfl rfl ?_
      refine o_if_ne_t X_252 K at_25 33 (by decide) (by decide) (by decide) ?_
      refine o_iload X_252 K at_33 35 rfl rfl ?_
      refine o_if_le_f X_252 K at_35 38 rfl (by decide) ?_
      refine o_aload X_252 K at_38 40 rfl rfl rfl ?_
      refine o_lloadN X_252 K at_40 41 rfl rfl ?_
      refine o_invokevirtual X_252 K at_41 44 rfl (w_33 hw) (w_34 hw) (w_36 hw) (w_35 hw) (w_2 hw) (w_37 hw) (by decide) W_252.exa [(.long p0)] [] rfl  (c_add l Z a0 hw n0 b 0 (fun _ => 0) 64 p0 h_252 Z_252 W_252 g_b (by decide)) e_252 rfl (lenOf pd__J_V rfl) (by decide) 0 (Nat.le_of_eq rfl) (by decide) (by decide) (by decide) N_252 ?_
      rintro _ T_265 h_265 locs_265 X_265 e_265 ⟨rfl, W_265⟩ N_265
      have Z_265 := W_265.1
      replace W_265 : own_W Z h_265 n0 b 1 (fun j => if j = 0 then p0 else (fun _ => 0) j) 64 := W_265
      show OGo p e below s n0 _ _ _ (T_265.setTop (mkF m 44 #[.val (.long p0), .second, .val (.long p1), .second, .val (.long p2), .second, .val (.int p3), .val (.int (1 : Int32)), .val (.int (1 : Int32)), .val (.ref b), .unset] []))
      refine o_iload X_265 K at_44 46 rfl rfl ?_
      refine o_iconst X_265 K (1 : Int32) at_46 47 rfl rfl ?_
      refine o_icmp_ne_f X_265 K at_47 50 rfl (by decide) ?_
      refine o_aload X_265 K at_50 52 rfl rfl rfl ?_
      refine o_invokevirtual X_265 K at_52 55 rfl (w_12 hw) (w_13 hw) (w_15 hw) (w_14 hw) (w_2 hw) (w_16 hw) (by decide) W_265.exa [] [] rfl  (c_trim l Z a0 hw n0 b 1 (fun j => if j = 0 then p0 else (fun _ => 0) j) 64 h_265 Z_265 W_265 g_b (by decide)) e_265 rfl (lenOf pd___V rfl) (by decide) 0 (Nat.le_of_eq rfl) (by decide) (by decide) (by decide) N_265 ?_
      rintro _ T_266 h_266 locs_266 X_266 e_266 ⟨rfl, W_266⟩ N_266
      have Z_266 := W_266.1
      show OGo p e below s n0 _ _ _ (T_266.setTop (mkF m 55 #[.val (.long p0), .second, .val (.long p1), .second, .val (.long p2), .second, .val (.int p3), .val (.int (1 : Int32)), .val (.int (1 : Int32)), .val (.ref b), .unset] []))
      refine o_iload X_266 K at_55 57 rfl rfl ?_
      refine o_iconst X_266 K (1 : Int32) at_57 58 rfl rfl ?_
      refine o_icmp_le_t X_266 K at_58 67 (by decide) (by decide) (by decide) ?_
      refine o_iload X_266 K at_67 69 rfl rfl ?_
      refine o_iconst X_266 K (2 : Int32) at_69 70 rfl rfl ?_
      refine o_icmp_ne_t X_266 K at_70 78 (by decide) (by decide) (by decide) ?_
      refine o_iload X_266 K at_78 80 rfl rfl ?_
      refine o_iconst X_266 K (2 : Int32) at_80 81 rfl rfl ?_
      refine o_icmp_le_t X_266 K at_81 91 (by decide) (by decide) (by decide) ?_
      refine o_iload X_266 K at_91 93 rfl rfl ?_
      refine o_iconst X_266 K (3 : Int32) at_93 94 rfl rfl ?_
      refine o_icmp_ne_t X_266 K at_94 102 (by decide) (by decide) (by decide) ?_
      refine o_aload X_266 K at_102 104 rfl rfl rfl ?_
      obtain ⟨sz, hsz, F_sz⟩ : ∃ sz : Int32, sz.toInt = (1 : Nat) ∧ Fld Z h_266 b "com/example/planwright/planwright/WholeNumbers" "size" "I" (.int sz) := by rcases W_266.2 with ⟨_, _, sz, -, -, h1, -, h2, -⟩ | ⟨_, _, sz, -, -, h1, -, h2, -⟩ <;> exact ⟨sz, h1, h2⟩
      refine o_invokevirtual X_266 K at_104 107 rfl (w_45 hw) (w_46 hw) (w_48 hw) (w_47 hw) (w_2 hw) (w_49 hw) (by decide) W_266.exa [] [] rfl  (c_size l Z a0 hw n0 b sz h_266 Z_266 F_sz) e_266 rfl (lenOf pd___I rfl) (by decide) 0 (Nat.le_of_eq rfl) (by decide) (by decide) (by decide) N_266 ?_
      rintro _ T_267 h_267 locs_267 X_267 q_267 ⟨rfl, r_267⟩ N_267
      have e_267 := q_267.trans r_267
      show OGo p e below s n0 _ _ _ (T_267.setTop (mkF m 107 #[.val (.long p0), .second, .val (.long p1), .second, .val (.long p2), .second, .val (.int p3), .val (.int (1 : Int32)), .val (.int (1 : Int32)), .val (.ref b), .unset] [(.int sz)]))
      refine o_iload X_267 K at_107 109 rfl rfl ?_
      refine o_icmp_ne_f X_267 K at_109 112 rfl (Int32.toInt_inj.mp (by rw [hsz]; rfl)) ?_
      refine o_iconst X_267 K (1 : Int32) at_112 113 rfl rfl ?_
      refine o_goto X_267 K at_113 117 (by decide) (by decide) ?_
      refine o_istore X_267 K at_117 119 rfl #[.val (.long p0), .second, .val (.long p1), .second, .val (.long p2), .second, .val (.int p3), .val (.int (1 : Int32)), .val (.int (1 : Int32)), .val (.ref b), .val (.int (1 : Int32))] rfl rfl ?_
      refine o_iload X_267 K at_119 121 rfl rfl ?_
      refine o_if_eq_f X_267 K at_121 124 rfl (by decide) ?_
      refine o_iload X_267 K at_124 126 rfl rfl ?_
      refine o_if_le_f X_267 K at_126 129 rfl (by decide) ?_
      refine o_aload X_267 K at_129 131 rfl rfl rfl ?_
      refine o_iconst X_267 K (0 : Int32) at_131 132 rfl rfl ?_
      refine o_invokevirtual X_267 K at_132 135 rfl (w_50 hw) (w_51 hw) (w_53 hw) (w_52 hw) (w_2 hw) (w_54 hw) (by decide) W_266.exa [(.int (0 : Int32))] [] rfl  (c_get l Z a0 hw n0 b 1 (fun j => if j = 0 then p0 else (fun _ => 0) j) 1 (0 : Int32) 0 h_266 Z_266 W_266 (by decide)) e_267 rfl (lenOf pd__I_J rfl) (by decide) 0 (Nat.le_of_eq rfl) (by decide) (by decide) (by decide) N_267 ?_
      rintro _ T_268 h_268 locs_268 X_268 q_268 ⟨rfl, r_268⟩ N_268
      have e_268 := q_268.trans r_268
      show OGo p e below s n0 _ _ _ (T_268.setTop (mkF m 135 #[.val (.long p0), .second, .val (.long p1), .second, .val (.long p2), .second, .val (.int p3), .val (.int (1 : Int32)), .val (.int (1 : Int32)), .val (.ref b), .val (.int (1 : Int32))] [(.long p0)]))
      refine o_lloadN X_268 K at_135 136 rfl rfl ?_
      refine o_lcmp X_268 K at_136 137 rfl ?_
      refine o_if_ne_f X_268 K at_137 140 rfl ((lw_eq _ _).mpr rfl) ?_
      refine o_iconst X_268 K (1 : Int32) at_140 141 rfl rfl ?_
      refine o_goto X_268 K at_141 145 (by decide) (by decide) ?_
      refine o_istore X_268 K at_145 147 rfl #[.val (.long p0), .second, .val (.long p1), .second, .val (.long p2), .second, .val (.int p3), .val (.int (1 : Int32)), .val (.int (1 : Int32)), .val (.ref b), .val (.int (1 : Int32))] rfl rfl ?_
      refine o_iload X_268 K at_147 149 rfl rfl ?_
      refine o_if_eq_f X_268 K at_149 152 rfl (by decide) ?_
      refine o_iload X_268 K at_152 154 rfl rfl ?_
      refine o_iconst X_268 K (1 : Int32) at_154 155 rfl rfl ?_
      refine o_icmp_le_t X_268 K at_155 176 (by decide) (by decide) (by decide) ?_
      refine o_iload X_268 K at_176 178 rfl rfl ?_
      refine o_if_eq_f X_268 K at_178 181 rfl (by decide) ?_
      refine o_iload X_268 K at_181 183 rfl rfl ?_
      refine o_iconst X_268 K (2 : Int32) at_183 184 rfl rfl ?_
      refine o_icmp_le_t X_268 K at_184 206 (by decide) (by decide) (by decide) ?_
      refine o_iload X_268 K at_206 208 rfl rfl ?_
      refine o_ireturnN X_268 K (by decide) at_208 (by decide) (by decide) N_268 ?_
      exact rfl
    · skip
      refine o_iload X_252 K at_23 25 rfl rfl ?_
      refine o_if_ne_t X_252 K at_25 33 (by decide) (by decide) (by decide) ?_
      refine o_iload X_252 K at_33 35 rfl rfl ?_
      refine o_if_le_f X_252 K at_35 38 rfl (by decide) ?_
      refine o_aload X_252 K at_38 40 rfl rfl rfl ?_
      refine o_lloadN X_252 K at_40 41 rfl rfl ?_
      refine o_invokevirtual X_252 K at_41 44 rfl (w_33 hw) (w_34 hw) (w_36 hw) (w_35 hw) (w_2 hw) (w_37 hw) (by decide) W_252.exa [(.long p0)] [] rfl  (c_add l Z a0 hw n0 b 0 (fun _ => 0) 64 p0 h_252 Z_252 W_252 g_b (by decide)) e_252 rfl (lenOf pd__J_V rfl) (by decide) 0 (Nat.le_of_eq rfl) (by decide) (by decide) (by decide) N_252 ?_
      rintro _ T_269 h_269 locs_269 X_269 e_269 ⟨rfl, W_269⟩ N_269
      have Z_269 := W_269.1
      replace W_269 : own_W Z h_269 n0 b 1 (fun j => if j = 0 then p0 else (fun _ => 0) j) 64 := W_269
      show OGo p e below s n0 _ _ _ (T_269.setTop (mkF m 44 #[.val (.long p0), .second, .val (.long p1), .second, .val (.long p2), .second, .val (.int p3), .val (.int (1 : Int32)), .val (.int (2 : Int32)), .val (.ref b), .unset] []))
      refine o_iload X_269 K at_44 46 rfl rfl ?_
      refine o_iconst X_269 K (1 : Int32) at_46 47 rfl rfl ?_
      refine o_icmp_ne_t X_269 K at_47 55 (by decide) (by decide) (by decide) ?_
      refine o_iload X_269 K at_55 57 rfl rfl ?_
      refine o_iconst X_269 K (1 : Int32) at_57 58 rfl rfl ?_
      refine o_icmp_le_t X_269 K at_58 67 (by decide) (by decide) (by decide) ?_
      refine o_iload X_269 K at_67 69 rfl rfl ?_
      refine o_iconst X_269 K (2 : Int32) at_69 70 rfl rfl ?_
      refine o_icmp_ne_f X_269 K at_70 73 rfl (by decide) ?_
      refine o_aload X_269 K at_73 75 rfl rfl rfl ?_
      refine o_invokevirtual X_269 K at_75 78 rfl (w_12 hw) (w_13 hw) (w_15 hw) (w_14 hw) (w_2 hw) (w_16 hw) (by decide) W_269.exa [] [] rfl  (c_trim l Z a0 hw n0 b 1 (fun j => if j = 0 then p0 else (fun _ => 0) j) 64 h_269 Z_269 W_269 g_b (by decide)) e_269 rfl (lenOf pd___V rfl) (by decide) 0 (Nat.le_of_eq rfl) (by decide) (by decide) (by decide) N_269 ?_
      rintro _ T_270 h_270 locs_270 X_270 e_270 ⟨rfl, W_270⟩ N_270
      have Z_270 := W_270.1
      show OGo p e below s n0 _ _ _ (T_270.setTop (mkF m 78 #[.val (.long p0), .second, .val (.long p1), .second, .val (.long p2), .second, .val (.int p3), .val (.int (1 : Int32)), .val (.int (2 : Int32)), .val (.ref b), .unset] []))
      refine o_iload X_270 K at_78 80 rfl rfl ?_
      refine o_iconst X_270 K (2 : Int32) at_80 81 rfl rfl ?_
      refine o_icmp_le_t X_270 K at_81 91 (by decide) (by decide) (by decide) ?_
      refine o_iload X_270 K at_91 93 rfl rfl ?_
      refine o_iconst X_270 K (3 : Int32) at_93 94 rfl rfl ?_
      refine o_icmp_ne_t X_270 K at_94 102 (by decide) (by decide) (by decide) ?_
      refine o_aload X_270 K at_102 104 rfl rfl rfl ?_
      obtain ⟨sz, hsz, F_sz⟩ : ∃ sz : Int32, sz.toInt = (1 : Nat) ∧ Fld Z h_270 b "com/example/planwright/planwright/WholeNumbers" "size" "I" (.int sz) := by rcases W_270.2 with ⟨_, _, sz, -, -, h1, -, h2, -⟩ | ⟨_, _, sz, -, -, h1, -, h2, -⟩ <;> exact ⟨sz, h1, h2⟩
      refine o_invokevirtual X_270 K at_104 107 rfl (w_45 hw) (w_46 hw) (w_48 hw) (w_47 hw) (w_2 hw) (w_49 hw) (by decide) W_270.exa [] [] rfl  (c_size l Z a0 hw n0 b sz h_270 Z_270 F_sz) e_270 rfl (lenOf pd___I rfl) (by decide) 0 (Nat.le_of_eq rfl) (by decide) (by decide) (by decide) N_270 ?_
      rintro _ T_271 h_271 locs_271 X_271 q_271 ⟨rfl, r_271⟩ N_271
      have e_271 := q_271.trans r_271
      show OGo p e below s n0 _ _ _ (T_271.setTop (mkF m 107 #[.val (.long p0), .second, .val (.long p1), .second, .val (.long p2), .second, .val (.int p3), .val (.int (1 : Int32)), .val (.int (2 : Int32)), .val (.ref b), .unset] [(.int sz)]))
      refine o_iload X_271 K at_107 109 rfl rfl ?_
      refine o_icmp_ne_f X_271 K at_109 112 rfl (Int32.toInt_inj.mp (by rw [hsz]; rfl)) ?_
      refine o_iconst X_271 K (1 : Int32) at_112 113 rfl rfl ?_
      refine o_goto X_271 K at_113 117 (by decide) (by decide) ?_
      refine o_istore X_271 K at_117 119 rfl #[.val (.long p0), .second, .val (.long p1), .second, .val (.long p2), .second, .val (.int p3), .val (.int (1 : Int32)), .val (.int (2 : Int32)), .val (.ref b), .val (.int (1 : Int32))] rfl rfl ?_
      refine o_iload X_271 K at_119 121 rfl rfl ?_
      refine o_if_eq_f X_271 K at_121 124 rfl (by decide) ?_
      refine o_iload X_271 K at_124 126 rfl rfl ?_
      refine o_if_le_f X_271 K at_126 129 rfl (by decide) ?_
      refine o_aload X_271 K at_129 131 rfl rfl rfl ?_
      refine o_iconst X_271 K (0 : Int32) at_131 132 rfl rfl ?_
      refine o_invokevirtual X_271 K at_132 135 rfl (w_50 hw) (w_51 hw) (w_53 hw) (w_52 hw) (w_2 hw) (w_54 hw) (by decide) W_270.exa [(.int (0 : Int32))] [] rfl  (c_get l Z a0 hw n0 b 1 (fun j => if j = 0 then p0 else (fun _ => 0) j) 1 (0 : Int32) 0 h_270 Z_270 W_270 (by decide)) e_271 rfl (lenOf pd__I_J rfl) (by decide) 0 (Nat.le_of_eq rfl) (by decide) (by decide) (by decide) N_271 ?_
      rintro _ T_272 h_272 locs_272 X_272 q_272 ⟨rfl, r_272⟩ N_272
      have e_272 := q_272.trans r_272
      show OGo p e below s n0 _ _ _ (T_272.setTop (mkF m 135 #[.val (.long p0), .second, .val (.long p1), .second, .val (.long p2), .second, .val (.int p3), .val (.int (1 : Int32)), .val (.int (2 : Int32)), .val (.ref b), .val (.int (1 : Int32))] [(.long p0)]))
      refine o_lloadN X_272 K at_135 136 rfl rfl ?_
      refine o_lcmp X_272 K at_136 137 rfl ?_
      refine o_if_ne_f X_272 K at_137 140 rfl ((lw_eq _ _).mpr rfl) ?_
      refine o_iconst X_272 K (1 : Int32) at_140 141 rfl rfl ?_
      refine o_goto X_272 K at_141 145 (by decide) (by decide) ?_
      refine o_istore X_272 K at_145 147 rfl #[.val (.long p0), .second, .val (.long p1), .second, .val (.long p2), .second, .val (.int p3), .val (.int (1 : Int32)), .val (.int (2 : Int32)), .val (.ref b), .val (.int (1 : Int32))] rfl rfl ?_
      refine o_iload X_272 K at_147 149 rfl rfl ?_
      refine o_if_eq_f X_272 K at_149 152 rfl (by decide) ?_
      refine o_iload X_272 K at_152 154 rfl rfl ?_
      refine o_iconst X_272 K (1 : Int32) at_154 155 rfl rfl ?_
      refine o_icmp_le_t X_272 K at_155 176 (by decide) (by decide) (by decide) ?_
      refine o_iload X_272 K at_176 178 rfl rfl ?_
      refine o_if_eq_f X_272 K at_178 181 rfl (by decide) ?_
      refine o_iload X_272 K at_181 183 rfl rfl ?_
      refine o_iconst X_272 K (2 : Int32) at_183 184 rfl rfl ?_
      refine o_icmp_le_t X_272 K at_184 206 (by decide) (by decide) (by decide) ?_
      refine o_iload X_272 K at_206 208 rfl rfl ?_
      refine o_ireturnN X_272 K (by decide) at_208 (by decide) (by decide) N_272 ?_
      exact rfl
    · skip
      refine o_iload X_252 K at_23 25 rfl rfl ?_
      refine o_if_ne_t X_252 K at_25 33 (by decide) (by decide) (by decide) ?_
      refine o_iload X_252 K at_33 35 rfl rfl ?_
      refine o_if_le_f X_252 K at_35 38 rfl (by decide) ?_
      refine o_aload X_252 K at_38 40 rfl rfl rfl ?_
      refine o_lloadN X_252 K at_40 41 rfl rfl ?_
      refine o_invokevirtual X_252 K at_41 44 rfl (w_33 hw) (w_34 hw) (w_36 hw) (w_35 hw) (w_2 hw) (w_37 hw) (by decide) W_252.exa [(.long p0)] [] rfl  (c_add l Z a0 hw n0 b 0 (fun _ => 0) 64 p0 h_252 Z_252 W_252 g_b (by decide)) e_252 rfl (lenOf pd__J_V rfl) (by decide) 0 (Nat.le_of_eq rfl) (by decide) (by decide) (by decide) N_252 ?_
      rintro _ T_273 h_273 locs_273 X_273 e_273 ⟨rfl, W_273⟩ N_273
      have Z_273 := W_273.1
      replace W_273 : own_W Z h_273 n0 b 1 (fun j => if j = 0 then p0 else (fun _ => 0) j) 64 := W_273
      show OGo p e below s n0 _ _ _ (T_273.setTop (mkF m 44 #[.val (.long p0), .second, .val (.long p1), .second, .val (.long p2), .second, .val (.int p3), .val (.int (1 : Int32)), .val (.int (3 : Int32)), .val (.ref b), .unset] []))
      refine o_iload X_273 K at_44 46 rfl rfl ?_
      refine o_iconst X_273 K (1 : Int32) at_46 47 rfl rfl ?_
      refine o_icmp_ne_t X_273 K at_47 55 (by decide) (by decide) (by decide) ?_
      refine o_iload X_273 K at_55 57 rfl rfl ?_
      refine o_iconst X_273 K (1 : Int32) at_57 58 rfl rfl ?_
      refine o_icmp_le_t X_273 K at_58 67 (by decide) (by decide) (by decide) ?_
      refine o_iload X_273 K at_67 69 rfl rfl ?_
      refine o_iconst X_273 K (2 : Int32) at_69 70 rfl rfl ?_
      refine o_icmp_ne_t X_273 K at_70 78 (by decide) (by decide) (by decide) ?_
      refine o_iload X_273 K at_78 80 rfl rfl ?_
      refine o_iconst X_273 K (2 : Int32) at_80 81 rfl rfl ?_
      refine o_icmp_le_t X_273 K at_81 91 (by decide) (by decide) (by decide) ?_
      refine o_iload X_273 K at_91 93 rfl rfl ?_
      refine o_iconst X_273 K (3 : Int32) at_93 94 rfl rfl ?_
      refine o_icmp_ne_f X_273 K at_94 97 rfl (by decide) ?_
      refine o_aload X_273 K at_97 99 rfl rfl rfl ?_
      refine o_invokevirtual X_273 K at_99 102 rfl (w_12 hw) (w_13 hw) (w_15 hw) (w_14 hw) (w_2 hw) (w_16 hw) (by decide) W_273.exa [] [] rfl  (c_trim l Z a0 hw n0 b 1 (fun j => if j = 0 then p0 else (fun _ => 0) j) 64 h_273 Z_273 W_273 g_b (by decide)) e_273 rfl (lenOf pd___V rfl) (by decide) 0 (Nat.le_of_eq rfl) (by decide) (by decide) (by decide) N_273 ?_
      rintro _ T_274 h_274 locs_274 X_274 e_274 ⟨rfl, W_274⟩ N_274
      have Z_274 := W_274.1
      show OGo p e below s n0 _ _ _ (T_274.setTop (mkF m 102 #[.val (.long p0), .second, .val (.long p1), .second, .val (.long p2), .second, .val (.int p3), .val (.int (1 : Int32)), .val (.int (3 : Int32)), .val (.ref b), .unset] []))
      refine o_aload X_274 K at_102 104 rfl rfl rfl ?_
      obtain ⟨sz, hsz, F_sz⟩ : ∃ sz : Int32, sz.toInt = (1 : Nat) ∧ Fld Z h_274 b "com/example/planwright/planwright/WholeNumbers" "size" "I" (.int sz) := by rcases W_274.2 with ⟨_, _, sz, -, -, h1, -, h2, -⟩ | ⟨_, _, sz, -, -, h1, -, h2, -⟩ <;> exact ⟨sz, h1, h2⟩
      refine o_invokevirtual X_274 K at_104 107 rfl (w_45 hw) (w_46 hw) (w_48 hw) (w_47 hw) (w_2 hw) (w_49 hw) (by decide) W_274.exa [] [] rfl  (c_size l Z a0 hw n0 b sz h_274 Z_274 F_sz) e_274 rfl (lenOf pd___I rfl) (by decide) 0 (Nat.le_of_eq rfl) (by decide) (by decide) (by decide) N_274 ?_
      rintro _ T_275 h_275 locs_275 X_275 q_275 ⟨rfl, r_275⟩ N_275
      have e_275 := q_275.trans r_275
      show OGo p e below s n0 _ _ _ (T_275.setTop (mkF m 107 #[.val (.long p0), .second, .val (.long p1), .second, .val (.long p2), .second, .val (.int p3), .val (.int (1 : Int32)), .val (.int (3 : Int32)), .val (.ref b), .unset] [(.int sz)]))
      refine o_iload X_275 K at_107 109 rfl rfl ?_
      refine o_icmp_ne_f X_275 K at_109 112 rfl (Int32.toInt_inj.mp (by rw [hsz]; rfl)) ?_
      refine o_iconst X_275 K (1 : Int32) at_112 113 rfl rfl ?_
      refine o_goto X_275 K at_113 117 (by decide) (by decide) ?_
      refine o_istore X_275 K at_117 119 rfl #[.val (.long p0), .second, .val (.long p1), .second, .val (.long p2), .second, .val (.int p3), .val (.int (1 : Int32)), .val (.int (3 : Int32)), .val (.ref b), .val (.int (1 : Int32))] rfl rfl ?_
      refine o_iload X_275 K at_119 121 rfl rfl ?_
      refine o_if_eq_f X_275 K at_121 124 rfl (by decide) ?_
      refine o_iload X_275 K at_124 126 rfl rfl ?_
      refine o_if_le_f X_275 K at_126 129 rfl (by decide) ?_
      refine o_aload X_275 K at_129 131 rfl rfl rfl ?_
      refine o_iconst X_275 K (0 : Int32) at_131 132 rfl rfl ?_
      refine o_invokevirtual X_275 K at_132 135 rfl (w_50 hw) (w_51 hw) (w_53 hw) (w_52 hw) (w_2 hw) (w_54 hw) (by decide) W_274.exa [(.int (0 : Int32))] [] rfl  (c_get l Z a0 hw n0 b 1 (fun j => if j = 0 then p0 else (fun _ => 0) j) 1 (0 : Int32) 0 h_274 Z_274 W_274 (by decide)) e_275 rfl (lenOf pd__I_J rfl) (by decide) 0 (Nat.le_of_eq rfl) (by decide) (by decide) (by decide) N_275 ?_
      rintro _ T_276 h_276 locs_276 X_276 q_276 ⟨rfl, r_276⟩ N_276
      have e_276 := q_276.trans r_276
      show OGo p e below s n0 _ _ _ (T_276.setTop (mkF m 135 #[.val (.long p0), .second, .val (.long p1), .second, .val (.long p2), .second, .val (.int p3), .val (.int (1 : Int32)), .val (.int (3 : Int32)), .val (.ref b), .val (.int (1 : Int32))] [(.long p0)]))
      refine o_lloadN X_276 K at_135 136 rfl rfl ?_
      refine o_lcmp X_276 K at_136 137 rfl ?_
      refine o_if_ne_f X_276 K at_137 140 rfl ((lw_eq _ _).mpr rfl) ?_
      refine o_iconst X_276 K (1 : Int32) at_140 141 rfl rfl ?_
      refine o_goto X_276 K at_141 145 (by decide) (by decide) ?_
      refine o_istore X_276 K at_145 147 rfl #[.val (.long p0), .second, .val (.long p1), .second, .val (.long p2), .second, .val (.int p3), .val (.int (1 : Int32)), .val (.int (3 : Int32)), .val (.ref b), .val (.int (1 : Int32))] rfl rfl ?_
      refine o_iload X_276 K at_147 149 rfl rfl ?_
      refine o_if_eq_f X_276 K at_149 152 rfl (by decide) ?_
      refine o_iload X_276 K at_152 154 rfl rfl ?_
      refine o_iconst X_276 K (1 : Int32) at_154 155 rfl rfl ?_
      refine o_icmp_le_t X_276 K at_155 176 (by decide) (by decide) (by decide) ?_
      refine o_iload X_276 K at_176 178 rfl rfl ?_
      refine o_if_eq_f X_276 K at_178 181 rfl (by decide) ?_
      refine o_iload X_276 K at_181 183 rfl rfl ?_
      refine o_iconst X_276 K (2 : Int32) at_183 184 rfl rfl ?_
      refine o_icmp_le_t X_276 K at_184 206 (by decide) (by decide) (by decide) ?_
      refine o_iload X_276 K at_206 208 rfl rfl ?_
      refine o_ireturnN X_276 K (by decide) at_208 (by decide) (by decide) N_276 ?_
      exact rfl
  · skip
    rcases own_four ta hta with rfl | rfl | rfl | rfl
    · skip
      refine o_iload X_252 K at_23 25 rfl rfl ?_
      refine o_if_ne_f X_252 K at_25 28 rfl (by decide) ?_
      refine o_aload X_252 K at_28 30 rfl rfl rfl ?_
      refine o_invokevirtual X_252 K at_30 33 rfl (w_12 hw) (w_13 hw) (w_15 hw) (w_14 hw) (w_2 hw) (w_16 hw) (by decide) W_252.exa [] [] rfl  (c_trim l Z a0 hw n0 b 0 (fun _ => 0) 64 h_252 Z_252 W_252 g_b (by decide)) e_252 rfl (lenOf pd___V rfl) (by decide) 0 (Nat.le_of_eq rfl) (by decide) (by decide) (by decide) N_252 ?_
      rintro _ T_277 h_277 locs_277 X_277 e_277 ⟨rfl, W_277⟩ N_277
      have Z_277 := W_277.1
      show OGo p e below s n0 _ _ _ (T_277.setTop (mkF m 33 #[.val (.long p0), .second, .val (.long p1), .second, .val (.long p2), .second, .val (.int p3), .val (.int (2 : Int32)), .val (.int (0 : Int32)), .val (.ref b), .unset] []))
      refine o_iload X_277 K at_33 35 rfl rfl ?_
      refine o_if_le_f X_277 K at_35 38 rfl (by decide) ?_
      refine o_aload X_277 K at_38 40 rfl rfl rfl ?_
      refine o_lloadN X_277 K at_40 41 rfl rfl ?_
      refine o_invokevirtual X_277 K at_41 44 rfl (w_33 hw) (w_34 hw) (w_36 hw) (w_35 hw) (w_2 hw) (w_37 hw) (by decide) W_277.exa [(.long p0)] [] rfl  (c_add l Z a0 hw n0 b 0 (fun _ => 0) 0 p0 h_277 Z_277 W_277 g_b (by decide)) e_277 rfl (lenOf pd__J_V rfl) (by decide) 0 (Nat.le_of_eq rfl) (by decide) (by decide) (by decide) N_277 ?_
      rintro _ T_278 h_278 locs_278 X_278 e_278 ⟨rfl, W_278⟩ N_278
      have Z_278 := W_278.1
      replace W_278 : own_W Z h_278 n0 b 1 (fun j => if j = 0 then p0 else (fun _ => 0) j) 1 := W_278
      show OGo p e below s n0 _ _ _ (T_278.setTop (mkF m 44 #[.val (.long p0), .second, .val (.long p1), .second, .val (.long p2), .second, .val (.int p3), .val (.int (2 : Int32)), .val (.int (0 : Int32)), .val (.ref b), .unset] []))
      refine o_iload X_278 K at_44 46 rfl rfl ?_
      refine o_iconst X_278 K (1 : Int32) at_46 47 rfl rfl ?_
      refine o_icmp_ne_t X_278 K at_47 55 (by decide) (by decide) (by decide) ?_
      refine o_iload X_278 K at_55 57 rfl rfl ?_
      refine o_iconst X_278 K (1 : Int32) at_57 58 rfl rfl ?_
      refine o_icmp_le_f X_278 K at_58 61 rfl (by decide) ?_
      refine o_aload X_278 K at_61 63 rfl rfl rfl ?_
      refine o_lloadN X_278 K at_63 64 rfl rfl ?_
      refine o_invokevirtual X_278 K at_64 67 rfl (w_33 hw) (w_34 hw) (w_36 hw) (w_35 hw) (w_2 hw) (w_37 hw) (by decide) W_278.exa [(.long p1)] [] rfl  (c_add l Z a0 hw n0 b 1 (fun j => if j = 0 then p0 else (fun _ => 0) j) 1 p1 h_278 Z_278 W_278 g_b (by decide)) e_278 rfl (lenOf pd__J_V rfl) (by decide) 0 (Nat.le_of_eq rfl) (by decide) (by decide) (by decide) N_278 ?_
      rintro _ T_279 h_279 locs_279 X_279 e_279 ⟨rfl, W_279⟩ N_279
      have Z_279 := W_279.1
      replace W_279 : own_W Z h_279 n0 b 2 (fun j => if j = 1 then p1 else (fun j => if j = 0 then p0 else (fun _ => 0) j) j) 2 := W_279
      show OGo p e below s n0 _ _ _ (T_279.setTop (mkF m 67 #[.val (.long p0), .second, .val (.long p1), .second, .val (.long p2), .second, .val (.int p3), .val (.int (2 : Int32)), .val (.int (0 : Int32)), .val (.ref b), .unset] []))
      refine o_iload X_279 K at_67 69 rfl rfl ?_
      refine o_iconst X_279 K (2 : Int32) at_69 70 rfl rfl ?_
      refine o_icmp_ne_t X_279 K at_70 78 (by decide) (by decide) (by decide) ?_
      refine o_iload X_279 K at_78 80 rfl rfl ?_
      refine o_iconst X_279 K (2 : Int32) at_80 81 rfl rfl ?_
      refine o_icmp_le_t X_279 K at_81 91 (by decide) (by decide) (by decide) ?_
      refine o_iload X_279 K at_91 93 rfl rfl ?_
      refine o_iconst X_279 K (3 : Int32) at_93 94 rfl rfl ?_
      refine o_icmp_ne_t X_279 K at_94 102 (by decide) (by decide) (by decide) ?_
      refine o_aload X_279 K at_102 104 rfl rfl rfl ?_
      obtain ⟨sz, hsz, F_sz⟩ : ∃ sz : Int32, sz.toInt = (2 : Nat) ∧ Fld Z h_279 b "com/example/planwright/planwright/WholeNumbers" "size" "I" (.int sz) := by rcases W_279.2 with ⟨_, _, sz, -, -, h1, -, h2, -⟩ | ⟨_, _, sz, -, -, h1, -, h2, -⟩ <;> exact ⟨sz, h1, h2⟩
      refine o_invokevirtual X_279 K at_104 107 rfl (w_45 hw) (w_46 hw) (w_48 hw) (w_47 hw) (w_2 hw) (w_49 hw) (by decide) W_279.exa [] [] rfl  (c_size l Z a0 hw n0 b sz h_279 Z_279 F_sz) e_279 rfl (lenOf pd___I rfl) (by decide) 0 (Nat.le_of_eq rfl) (by decide) (by decide) (by decide) N_279 ?_
      rintro _ T_280 h_280 locs_280 X_280 q_280 ⟨rfl, r_280⟩ N_280
      have e_280 := q_280.trans r_280
      show OGo p e below s n0 _ _ _ (T_280.setTop (mkF m 107 #[.val (.long p0), .second, .val (.long p1), .second, .val (.long p2), .second, .val (.int p3), .val (.int (2 : Int32)), .val (.int (0 : Int32)), .val (.ref b), .unset] [(.int sz)]))
      refine o_iload X_280 K at_107 109 rfl rfl ?_
      refine o_icmp_ne_f X_280 K at_109 112 rfl (Int32.toInt_inj.mp (by rw [hsz]; rfl)) ?_
      refine o_iconst X_280 K (1 : Int32) at_112 113 rfl rfl ?_
      refine o_goto X_280 K at_113 117 (by decide) (by decide) ?_
      refine o_istore X_280 K at_117 119 rfl #[.val (.long p0), .second, .val (.long p1), .second, .val (.long p2), .second, .val (.int p3), .val (.int (2 : Int32)), .val (.int (0 : Int32)), .val (.ref b), .val (.int (1 : Int32))] rfl rfl ?_
      refine o_iload X_280 K at_119 121 rfl rfl ?_
      refine o_if_eq_f X_280 K at_121 124 rfl (by decide) ?_
      refine o_iload X_280 K at_124 126 rfl rfl ?_
      refine o_if_le_f X_280 K at_126 129 rfl (by decide) ?_
      refine o_aload X_280 K at_129 131 rfl rfl rfl ?_
      refine o_iconst X_280 K (0 : Int32) at_131 132 rfl rfl ?_
      refine o_invokevirtual X_280 K at_132 135 rfl (w_50 hw) (w_51 hw) (w_53 hw) (w_52 hw) (w_2 hw) (w_54 hw) (by decide) W_279.exa [(.int (0 : Int32))] [] rfl  (c_get l Z a0 hw n0 b 2 (fun j => if j = 1 then p1 else (fun j => if j = 0 then p0 else (fun _ => 0) j) j) 2 (0 : Int32) 0 h_279 Z_279 W_279 (by decide)) e_280 rfl (lenOf pd__I_J rfl) (by decide) 0 (Nat.le_of_eq rfl) (by decide) (by decide) (by decide) N_280 ?_
      rintro _ T_281 h_281 locs_281 X_281 q_281 ⟨rfl, r_281⟩ N_281
      have e_281 := q_281.trans r_281
      show OGo p e below s n0 _ _ _ (T_281.setTop (mkF m 135 #[.val (.long p0), .second, .val (.long p1), .second, .val (.long p2), .second, .val (.int p3), .val (.int (2 : Int32)), .val (.int (0 : Int32)), .val (.ref b), .val (.int (1 : Int32))] [(.long p0)]))
      refine o_lloadN X_281 K at_135 136 rfl rfl ?_
      refine o_lcmp X_281 K at_136 137 rfl ?_
      refine o_if_ne_f X_281 K at_137 140 rfl ((lw_eq _ _).mpr rfl) ?_
      refine o_iconst X_281 K (1 : Int32) at_140 141 rfl rfl ?_
      refine o_goto X_281 K at_141 145 (by decide) (by decide) ?_
      refine o_istore X_281 K at_145 147 rfl #[.val (.long p0), .second, .val (.long p1), .second, .val (.long p2), .second, .val (.int p3), .val (.int (2 : Int32)), .val (.int (0 : Int32)), .val (.ref b), .val (.int (1 : Int32))] rfl rfl ?_
      refine o_iload X_281 K at_147 149 rfl rfl ?_
      refine o_if_eq_f X_281 K at_149 152 rfl (by decide) ?_
      refine o_iload X_281 K at_152 154 rfl rfl ?_
      refine o_iconst X_281 K (1 : Int32) at_154 155 rfl rfl ?_
      refine o_icmp_le_f X_281 K at_155 158 rfl (by decide) ?_
      refine o_aload X_281 K at_158 160 rfl rfl rfl ?_
      refine o_iconst X_281 K (1 : Int32) at_160 161 rfl rfl ?_
      refine o_invokevirtual X_281 K at_161 164 rfl (w_50 hw) (w_51 hw) (w_53 hw) (w_52 hw) (w_2 hw) (w_54 hw) (by decide) W_279.exa [(.int (1 : Int32))] [] rfl  (c_get l Z a0 hw n0 b 2 (fun j => if j = 1 then p1 else (fun j => if j = 0 then p0 else (fun _ => 0) j) j) 2 (1 : Int32) 1 h_279 Z_279 W_279 (by decide)) e_281 rfl (lenOf pd__I_J rfl) (by decide) 0 (Nat.le_of_eq rfl) (by decide) (by decide) (by decide) N_281 ?_
      rintro _ T_282 h_282 locs_282 X_282 q_282 ⟨rfl, r_282⟩ N_282
      have e_282 := q_282.trans r_282
      show OGo p e below s n0 _ _ _ (T_282.setTop (mkF m 164 #[.val (.long p0), .second, .val (.long p1), .second, .val (.long p2), .second, .val (.int p3), .val (.int (2 : Int32)), .val (.int (0 : Int32)), .val (.ref b), .val (.int (1 : Int32))] [(.long p1)]))
      refine o_lloadN X_282 K at_164 165 rfl rfl ?_
      refine o_lcmp X_282 K at_165 166 rfl ?_
      refine o_if_ne_f X_282 K at_166 169 rfl ((lw_eq _ _).mpr rfl) ?_
      refine o_iconst X_282 K (1 : Int32) at_169 170 rfl rfl ?_
      refine o_goto X_282 K at_170 174 (by decide) (by decide) ?_
      refine o_istore X_282 K at_174 176 rfl #[.val (.long p0), .second, .val (.long p1), .second, .val (.long p2), .second, .val (.int p3), .val (.int (2 : Int32)), .val (.int (0 : Int32)), .val (.ref b), .val (.int (1 : Int32))] rfl rfl ?_
      refine o_iload X_282 K at_176 178 rfl rfl ?_
      refine o_if_eq_f X_282 K at_178 181 rfl (by decide) ?_
      refine o_iload X_282 K at_181 183 rfl rfl ?_
      refine o_iconst X_282 K (2 : Int32) at_183 184 rfl rfl ?_
      refine o_icmp_le_t X_282 K at_184 206 (by decide) (by decide) (by decide) ?_
      refine o_iload X_282 K at_206 208 rfl rfl ?_
      refine o_ireturnN X_282 K (by decide) at_208 (by decide) (by decide) N_282 ?_
      exact rfl
    · skip
      refine o_iload X_252 K at_23 25 rfl rfl ?_
      refine o_if_ne_t X_252 K at_25 33 (by decide) (by decide) (by decide) ?_
      refine o_iload X_252 K at_33 35 rfl rfl ?_
      refine o_if_le_f X_252 K at_35 38 rfl (by decide) ?_
      refine o_aload X_252 K at_38 40 rfl rfl rfl ?_
      refine o_lloadN X_252 K at_40 41 rfl rfl ?_
      refine o_invokevirtual X_252 K at_41 44 rfl (w_33 hw) (w_34 hw) (w_36 hw) (w_35 hw) (w_2 hw) (w_37 hw) (by decide) W_252.exa [(.long p0)] [] rfl  (c_add l Z a0 hw n0 b 0 (fun _ => 0) 64 p0 h_252 Z_252 W_252 g_b (by decide)) e_252 rfl (lenOf pd__J_V rfl) (by decide) 0 (Nat.le_of_eq rfl) (by decide) (by decide) (by decide) N_252 ?_
      rintro _ T_283 h_283 locs_283 X_283 e_283 ⟨rfl, W_283⟩ N_283
      have Z_283 := W_283.1
      replace W_283 : own_W Z h_283 n0 b 1 (fun j => if j = 0 then p0 else (fun _ => 0) j) 64 := W_283
      show OGo p e below s n0 _ _ _ (T_283.setTop (mkF m 44 #[.val (.long p0), .second, .val (.long p1), .second, .val (.long p2), .second, .val (.int p3), .val (.int (2 : Int32)), .val (.int (1 : Int32)), .val (.ref b), .unset] []))
      refine o_iload X_283 K at_44 46 rfl rfl ?_
      refine o_iconst X_283 K (1 : Int32) at_46 47 rfl rfl ?_
      refine o_icmp_ne_f X_283 K at_47 50 rfl (by decide) ?_
      refine o_aload X_283 K at_50 52 rfl rfl rfl ?_
      refine o_invokevirtual X_283 K at_52 55 rfl (w_12 hw) (w_13 hw) (w_15 hw) (w_14 hw) (w_2 hw) (w_16 hw) (by decide) W_283.exa [] [] rfl  (c_trim l Z a0 hw n0 b 1 (fun j => if j = 0 then p0 else (fun _ => 0) j) 64 h_283 Z_283 W_283 g_b (by decide)) e_283 rfl (lenOf pd___V rfl) (by decide) 0 (Nat.le_of_eq rfl) (by decide) (by decide) (by decide) N_283 ?_
      rintro _ T_284 h_284 locs_284 X_284 e_284 ⟨rfl, W_284⟩ N_284
      have Z_284 := W_284.1
      show OGo p e below s n0 _ _ _ (T_284.setTop (mkF m 55 #[.val (.long p0), .second, .val (.long p1), .second, .val (.long p2), .second, .val (.int p3), .val (.int (2 : Int32)), .val (.int (1 : Int32)), .val (.ref b), .unset] []))
      refine o_iload X_284 K at_55 57 rfl rfl ?_
      refine o_iconst X_284 K (1 : Int32) at_57 58 rfl rfl ?_
      refine o_icmp_le_f X_284 K at_58 61 rfl (by decide) ?_
      refine o_aload X_284 K at_61 63 rfl rfl rfl ?_
      refine o_lloadN X_284 K at_63 64 rfl rfl ?_
      refine o_invokevirtual X_284 K at_64 67 rfl (w_33 hw) (w_34 hw) (w_36 hw) (w_35 hw) (w_2 hw) (w_37 hw) (by decide) W_284.exa [(.long p1)] [] rfl  (c_add l Z a0 hw n0 b 1 (fun j => if j = 0 then p0 else (fun _ => 0) j) 1 p1 h_284 Z_284 W_284 g_b (by decide)) e_284 rfl (lenOf pd__J_V rfl) (by decide) 0 (Nat.le_of_eq rfl) (by decide) (by decide) (by decide) N_284 ?_
      rintro _ T_285 h_285 locs_285 X_285 e_285 ⟨rfl, W_285⟩ N_285
      have Z_285 := W_285.1
      replace W_285 : own_W Z h_285 n0 b 2 (fun j => if j = 1 then p1 else (fun j => if j = 0 then p0 else (fun _ => 0) j) j) 2 := W_285
      show OGo p e below s n0 _ _ _ (T_285.setTop (mkF m 67 #[.val (.long p0), .second, .val (.long p1), .second, .val (.long p2), .second, .val (.int p3), .val (.int (2 : Int32)), .val (.int (1 : Int32)), .val (.ref b), .unset] []))
      refine o_iload X_285 K at_67 69 rfl rfl ?_
      refine o_iconst X_285 K (2 : Int32) at_69 70 rfl rfl ?_
      refine o_icmp_ne_t X_285 K at_70 78 (by decide) (by decide) (by decide) ?_
      refine o_iload X_285 K at_78 80 rfl rfl ?_
      refine o_iconst X_285 K (2 : Int32) at_80 81 rfl rfl ?_
      refine o_icmp_le_t X_285 K at_81 91 (by decide) (by decide) (by decide) ?_
      refine o_iload X_285 K at_91 93 rfl rfl ?_
      refine o_iconst X_285 K (3 : Int32) at_93 94 rfl rfl ?_
      refine o_icmp_ne_t X_285 K at_94 102 (by decide) (by decide) (by decide) ?_
      refine o_aload X_285 K at_102 104 rfl rfl rfl ?_
      obtain ⟨sz, hsz, F_sz⟩ : ∃ sz : Int32, sz.toInt = (2 : Nat) ∧ Fld Z h_285 b "com/example/planwright/planwright/WholeNumbers" "size" "I" (.int sz) := by rcases W_285.2 with ⟨_, _, sz, -, -, h1, -, h2, -⟩ | ⟨_, _, sz, -, -, h1, -, h2, -⟩ <;> exact ⟨sz, h1, h2⟩
      refine o_invokevirtual X_285 K at_104 107 rfl (w_45 hw) (w_46 hw) (w_48 hw) (w_47 hw) (w_2 hw) (w_49 hw) (by decide) W_285.exa [] [] rfl  (c_size l Z a0 hw n0 b sz h_285 Z_285 F_sz) e_285 rfl (lenOf pd___I rfl) (by decide) 0 (Nat.le_of_eq rfl) (by decide) (by decide) (by decide) N_285 ?_
      rintro _ T_286 h_286 locs_286 X_286 q_286 ⟨rfl, r_286⟩ N_286
      have e_286 := q_286.trans r_286
      show OGo p e below s n0 _ _ _ (T_286.setTop (mkF m 107 #[.val (.long p0), .second, .val (.long p1), .second, .val (.long p2), .second, .val (.int p3), .val (.int (2 : Int32)), .val (.int (1 : Int32)), .val (.ref b), .unset] [(.int sz)]))
      refine o_iload X_286 K at_107 109 rfl rfl ?_
      refine o_icmp_ne_f X_286 K at_109 112 rfl (Int32.toInt_inj.mp (by rw [hsz]; rfl)) ?_
      refine o_iconst X_286 K (1 : Int32) at_112 113 rfl rfl ?_
      refine o_goto X_286 K at_113 117 (by decide) (by decide) ?_
      refine o_istore X_286 K at_117 119 rfl #[.val (.long p0), .second, .val (.long p1), .second, .val (.long p2), .second, .val (.int p3), .val (.int (2 : Int32)), .val (.int (1 : Int32)), .val (.ref b), .val (.int (1 : Int32))] rfl rfl ?_
      refine o_iload X_286 K at_119 121 rfl rfl ?_
      refine o_if_eq_f X_286 K at_121 124 rfl (by decide) ?_
      refine o_iload X_286 K at_124 126 rfl rfl ?_
      refine o_if_le_f X_286 K at_126 129 rfl (by decide) ?_
      refine o_aload X_286 K at_129 131 rfl rfl rfl ?_
      refine o_iconst X_286 K (0 : Int32) at_131 132 rfl rfl ?_
      refine o_invokevirtual X_286 K at_132 135 rfl (w_50 hw) (w_51 hw) (w_53 hw) (w_52 hw) (w_2 hw) (w_54 hw) (by decide) W_285.exa [(.int (0 : Int32))] [] rfl  (c_get l Z a0 hw n0 b 2 (fun j => if j = 1 then p1 else (fun j => if j = 0 then p0 else (fun _ => 0) j) j) 2 (0 : Int32) 0 h_285 Z_285 W_285 (by decide)) e_286 rfl (lenOf pd__I_J rfl) (by decide) 0 (Nat.le_of_eq rfl) (by decide) (by decide) (by decide) N_286 ?_
      rintro _ T_287 h_287 locs_287 X_287 q_287 ⟨rfl, r_287⟩ N_287
      have e_287 := q_287.trans r_287
      show OGo p e below s n0 _ _ _ (T_287.setTop (mkF m 135 #[.val (.long p0), .second, .val (.long p1), .second, .val (.long p2), .second, .val (.int p3), .val (.int (2 : Int32)), .val (.int (1 : Int32)), .val (.ref b), .val (.int (1 : Int32))] [(.long p0)]))
      refine o_lloadN X_287 K at_135 136 rfl rfl ?_
      refine o_lcmp X_287 K at_136 137 rfl ?_
      refine o_if_ne_f X_287 K at_137 140 rfl ((lw_eq _ _).mpr rfl) ?_
      refine o_iconst X_287 K (1 : Int32) at_140 141 rfl rfl ?_
      refine o_goto X_287 K at_141 145 (by decide) (by decide) ?_
      refine o_istore X_287 K at_145 147 rfl #[.val (.long p0), .second, .val (.long p1), .second, .val (.long p2), .second, .val (.int p3), .val (.int (2 : Int32)), .val (.int (1 : Int32)), .val (.ref b), .val (.int (1 : Int32))] rfl rfl ?_
      refine o_iload X_287 K at_147 149 rfl rfl ?_
      refine o_if_eq_f X_287 K at_149 152 rfl (by decide) ?_
      refine o_iload X_287 K at_152 154 rfl rfl ?_
      refine o_iconst X_287 K (1 : Int32) at_154 155 rfl rfl ?_
      refine o_icmp_le_f X_287 K at_155 158 rfl (by decide) ?_
      refine o_aload X_287 K at_158 160 rfl rfl rfl ?_
      refine o_iconst X_287 K (1 : Int32) at_160 161 rfl rfl ?_
      refine o_invokevirtual X_287 K at_161 164 rfl (w_50 hw) (w_51 hw) (w_53 hw) (w_52 hw) (w_2 hw) (w_54 hw) (by decide) W_285.exa [(.int (1 : Int32))] [] rfl  (c_get l Z a0 hw n0 b 2 (fun j => if j = 1 then p1 else (fun j => if j = 0 then p0 else (fun _ => 0) j) j) 2 (1 : Int32) 1 h_285 Z_285 W_285 (by decide)) e_287 rfl (lenOf pd__I_J rfl) (by decide) 0 (Nat.le_of_eq rfl) (by decide) (by decide) (by decide) N_287 ?_
      rintro _ T_288 h_288 locs_288 X_288 q_288 ⟨rfl, r_288⟩ N_288
      have e_288 := q_288.trans r_288
      show OGo p e below s n0 _ _ _ (T_288.setTop (mkF m 164 #[.val (.long p0), .second, .val (.long p1), .second, .val (.long p2), .second, .val (.int p3), .val (.int (2 : Int32)), .val (.int (1 : Int32)), .val (.ref b), .val (.int (1 : Int32))] [(.long p1)]))
      refine o_lloadN X_288 K at_164 165 rfl rfl ?_
      refine o_lcmp X_288 K at_165 166 rfl ?_
      refine o_if_ne_f X_288 K at_166 169 rfl ((lw_eq _ _).mpr rfl) ?_
      refine o_iconst X_288 K (1 : Int32) at_169 170 rfl rfl ?_
      refine o_goto X_288 K at_170 174 (by decide) (by decide) ?_
      refine o_istore X_288 K at_174 176 rfl #[.val (.long p0), .second, .val (.long p1), .second, .val (.long p2), .second, .val (.int p3), .val (.int (2 : Int32)), .val (.int (1 : Int32)), .val (.ref b), .val (.int (1 : Int32))] rfl rfl ?_
      refine o_iload X_288 K at_176 178 rfl rfl ?_
      refine o_if_eq_f X_288 K at_178 181 rfl (by decide) ?_
      refine o_iload X_288 K at_181 183 rfl rfl ?_
      refine o_iconst X_288 K (2 : Int32) at_183 184 rfl rfl ?_
      refine o_icmp_le_t X_288 K at_184 206 (by decide) (by decide) (by decide) ?_
      refine o_iload X_288 K at_206 208 rfl rfl ?_
      refine o_ireturnN X_288 K (by decide) at_208 (by decide) (by decide) N_288 ?_
      exact rfl
    · skip
      refine o_iload X_252 K at_23 25 rfl rfl ?_
      refine o_if_ne_t X_252 K at_25 33 (by decide) (by decide) (by decide) ?_
      refine o_iload X_252 K at_33 35 rfl rfl ?_
      refine o_if_le_f X_252 K at_35 38 rfl (by decide) ?_
      refine o_aload X_252 K at_38 40 rfl rfl rfl ?_
      refine o_lloadN X_252 K at_40 41 rfl rfl ?_
      refine o_invokevirtual X_252 K at_41 44 rfl (w_33 hw) (w_34 hw) (w_36 hw) (w_35 hw) (w_2 hw) (w_37 hw) (by decide) W_252.exa [(.long p0)] [] rfl  (c_add l Z a0 hw n0 b 0 (fun _ => 0) 64 p0 h_252 Z_252 W_252 g_b (by decide)) e_252 rfl (lenOf pd__J_V rfl) (by decide) 0 (Nat.le_of_eq rfl) (by decide) (by decide) (by decide) N_252 ?_
      rintro _ T_289 h_289 locs_289 X_289 e_289 ⟨rfl, W_289⟩ N_289
      have Z_289 := W_289.1
      replace W_289 : own_W Z h_289 n0 b 1 (fun j => if j = 0 then p0 else (fun _ => 0) j) 64 := W_289
      show OGo p e below s n0 _ _ _ (T_289.setTop (mkF m 44 #[.val (.long p0), .second, .val (.long p1), .second, .val (.long p2), .second, .val (.int p3), .val (.int (2 : Int32)), .val (.int (2 : Int32)), .val (.ref b), .unset] []))
      refine o_iload X_289 K at_44 46 rfl rfl ?_
      refine o_iconst X_289 K (1 : Int32) at_46 47 rfl rfl ?_
      refine o_icmp_ne_t X_289 K at_47 55 (by decide) (by decide) (by decide) ?_
      refine o_iload X_289 K at_55 57 rfl rfl ?_
      refine o_iconst X_289 K (1 : Int32) at_57 58 rfl rfl ?_
      refine o_icmp_le_f X_289 K at_58 61 rfl (by decide) ?_
      refine o_aload X_289 K at_61 63 rfl rfl rfl ?_
      refine o_lloadN X_289 K at_63 64 rfl rfl ?_
      refine o_invokevirtual X_289 K at_64 67 rfl (w_33 hw) (w_34 hw) (w_36 hw) (w_35 hw) (w_2 hw) (w_37 hw) (by decide) W_289.exa [(.long p1)] [] rfl  (c_add l Z a0 hw n0 b 1 (fun j => if j = 0 then p0 else (fun _ => 0) j) 64 p1 h_289 Z_289 W_289 g_b (by decide)) e_289 rfl (lenOf pd__J_V rfl) (by decide) 0 (Nat.le_of_eq rfl) (by decide) (by decide) (by decide) N_289 ?_
      rintro _ T_290 h_290 locs_290 X_290 e_290 ⟨rfl, W_290⟩ N_290
      have Z_290 := W_290.1
      replace W_290 : own_W Z h_290 n0 b 2 (fun j => if j = 1 then p1 else (fun j => if j = 0 then p0 else (fun _ => 0) j) j) 64 := W_290
      show OGo p e below s n0 _ _ _ (T_290.setTop (mkF m 67 #[.val (.long p0), .second, .val (.long p1), .second, .val (.long p2), .second, .val (.int p3), .val (.int (2 : Int32)), .val (.int (2 : Int32)), .val (.ref b), .unset] []))
      refine o_iload X_290 K at_67 69 rfl rfl ?_
      refine o_iconst X_290 K (2 : Int32) at_69 70 rfl rfl ?_
      refine o_icmp_ne_f X_290 K at_70 73 rfl (by decide) ?_
      refine o_aload X_290 K at_73 75 rfl rfl rfl ?_
      refine o_invokevirtual X_290 K at_75 78 rfl (w_12 hw) (w_13 hw) (w_15 hw) (w_14 hw) (w_2 hw) (w_16 hw) (by decide) W_290.exa [] [] rfl  (c_trim l Z a0 hw n0 b 2 (fun j => if j = 1 then p1 else (fun j => if j = 0 then p0 else (fun _ => 0) j) j) 64 h_290 Z_290 W_290 g_b (by decide)) e_290 rfl (lenOf pd___V rfl) (by decide) 0 (Nat.le_of_eq rfl) (by decide) (by decide) (by decide) N_290 ?_
      rintro _ T_291 h_291 locs_291 X_291 e_291 ⟨rfl, W_291⟩ N_291
      have Z_291 := W_291.1
      show OGo p e below s n0 _ _ _ (T_291.setTop (mkF m 78 #[.val (.long p0), .second, .val (.long p1), .second, .val (.long p2), .second, .val (.int p3), .val (.int (2 : Int32)), .val (.int (2 : Int32)), .val (.ref b), .unset] []))
      refine o_iload X_291 K at_78 80 rfl rfl ?_
      refine o_iconst X_291 K (2 : Int32) at_80 81 rfl rfl ?_
      refine o_icmp_le_t X_291 K at_81 91 (by decide) (by decide) (by decide) ?_
      refine o_iload X_291 K at_91 93 rfl rfl ?_
      refine o_iconst X_291 K (3 : Int32) at_93 94 rfl rfl ?_
      refine o_icmp_ne_t X_291 K at_94 102 (by decide) (by decide) (by decide) ?_
      refine o_aload X_291 K at_102 104 rfl rfl rfl ?_
      obtain ⟨sz, hsz, F_sz⟩ : ∃ sz : Int32, sz.toInt = (2 : Nat) ∧ Fld Z h_291 b "com/example/planwright/planwright/WholeNumbers" "size" "I" (.int sz) := by rcases W_291.2 with ⟨_, _, sz, -, -, h1, -, h2, -⟩ | ⟨_, _, sz, -, -, h1, -, h2, -⟩ <;> exact ⟨sz, h1, h2⟩
      refine o_invokevirtual X_291 K at_104 107 rfl (w_45 hw) (w_46 hw) (w_48 hw) (w_47 hw) (w_2 hw) (w_49 hw) (by decide) W_291.exa [] [] rfl  (c_size l Z a0 hw n0 b sz h_291 Z_291 F_sz) e_291 rfl (lenOf pd___I rfl) (by decide) 0 (Nat.le_of_eq rfl) (by decide) (by decide) (by decide) N_291 ?_
      rintro _ T_292 h_292 locs_292 X_292 q_292 ⟨rfl, r_292⟩ N_292
      have e_292 := q_292.trans r_292
      show OGo p e below s n0 _ _ _ (T_292.setTop (mkF m 107 #[.val (.long p0), .second, .val (.long p1), .second, .val (.long p2), .second, .val (.int p3), .val (.int (2 : Int32)), .val (.int (2 : Int32)), .val (.ref b), .unset] [(.int sz)]))
      refine o_iload X_292 K at_107 109 rfl rfl ?_
      refine o_icmp_ne_f X_292 K at_109 112 rfl (Int32.toInt_inj.mp (by rw [hsz]; rfl)) ?_
      refine o_iconst X_292 K (1 : Int32) at_112 113 rfl rfl ?_
      refine o_goto X_292 K at_113 117 (by decide) (by decide) ?_
      refine o_istore X_292 K at_117 119 rfl #[.val (.long p0), .second, .val (.long p1), .second, .val (.long p2), .second, .val (.int p3), .val (.int (2 : Int32)), .val (.int (2 : Int32)), .val (.ref b), .val (.int (1 : Int32))] rfl rfl ?_
      refine o_iload X_292 K at_119 121 rfl rfl ?_
      refine o_if_eq_f X_292 K at_121 124 rfl (by decide) ?_
      refine o_iload X_292 K at_124 126 rfl rfl ?_
      refine o_if_le_f X_292 K at_126 129 rfl (by decide) ?_
      refine o_aload X_292 K at_129 131 rfl rfl rfl ?_
      refine o_iconst X_292 K (0 : Int32) at_131 132 rfl rfl ?_
      refine o_invokevirtual X_292 K at_132 135 rfl (w_50 hw) (w_51 hw) (w_53 hw) (w_52 hw) (w_2 hw) (w_54 hw) (by decide) W_291.exa [(.int (0 : Int32))] [] rfl  (c_get l Z a0 hw n0 b 2 (fun j => if j = 1 then p1 else (fun j => if j = 0 then p0 else (fun _ => 0) j) j) 2 (0 : Int32) 0 h_291 Z_291 W_291 (by decide)) e_292 rfl (lenOf pd__I_J rfl) (by decide) 0 (Nat.le_of_eq rfl) (by decide) (by decide) (by decide) N_292 ?_
      rintro _ T_293 h_293 locs_293 X_293 q_293 ⟨rfl, r_293⟩ N_293
      have e_293 := q_293.trans r_293
      show OGo p e below s n0 _ _ _ (T_293.setTop (mkF m 135 #[.val (.long p0), .second, .val (.long p1), .second, .val (.long p2), .second, .val (.int p3), .val (.int (2 : Int32)), .val (.int (2 : Int32)), .val (.ref b), .val (.int (1 : Int32))] [(.long p0)]))
      refine o_lloadN X_293 K at_135 136 rfl rfl ?_
      refine o_lcmp X_293 K at_136 137 rfl ?_
      refine o_if_ne_f X_293 K at_137 140 rfl ((lw_eq _ _).mpr rfl) ?_
      refine o_iconst X_293 K (1 : Int32) at_140 141 rfl rfl ?_
      refine o_goto X_293 K at_141 145 (by decide) (by decide) ?_
      refine o_istore X_293 K at_145 147 rfl #[.val (.long p0), .second, .val (.long p1), .second, .val (.long p2), .second, .val (.int p3), .val (.int (2 : Int32)), .val (.int (2 : Int32)), .val (.ref b), .val (.int (1 : Int32))] rfl rfl ?_
      refine o_iload X_293 K at_147 149 rfl rfl ?_
      refine o_if_eq_f X_293 K at_149 152 rfl (by decide) ?_
      refine o_iload X_293 K at_152 154 rfl rfl ?_
      refine o_iconst X_293 K (1 : Int32) at_154 155 rfl rfl ?_
      refine o_icmp_le_f X_293 K at_155 158 rfl (by decide) ?_
      refine o_aload X_293 K at_158 160 rfl rfl rfl ?_
      refine o_iconst X_293 K (1 : Int32) at_160 161 rfl rfl ?_
      refine o_invokevirtual X_293 K at_161 164 rfl (w_50 hw) (w_51 hw) (w_53 hw) (w_52 hw) (w_2 hw) (w_54 hw) (by decide) W_291.exa [(.int (1 : Int32))] [] rfl  (c_get l Z a0 hw n0 b 2 (fun j => if j = 1 then p1 else (fun j => if j = 0 then p0 else (fun _ => 0) j) j) 2 (1 : Int32) 1 h_291 Z_291 W_291 (by decide)) e_293 rfl (lenOf pd__I_J rfl) (by decide) 0 (Nat.le_of_eq rfl) (by decide) (by decide) (by decide) N_293 ?_
      rintro _ T_294 h_294 locs_294 X_294 q_294 ⟨rfl, r_294⟩ N_294
      have e_294 := q_294.trans r_294
      show OGo p e below s n0 _ _ _ (T_294.setTop (mkF m 164 #[.val (.long p0), .second, .val (.long p1), .second, .val (.long p2), .second, .val (.int p3), .val (.int (2 : Int32)), .val (.int (2 : Int32)), .val (.ref b), .val (.int (1 : Int32))] [(.long p1)]))
      refine o_lloadN X_294 K at_164 165 rfl rfl ?_
      refine o_lcmp X_294 K at_165 166 rfl ?_
      refine o_if_ne_f X_294 K at_166 169 rfl ((lw_eq _ _).mpr rfl) ?_
      refine o_iconst X_294 K (1 : Int32) at_169 170 rfl rfl ?_
      refine o_goto X_294 K at_170 174 (by decide) (by decide) ?_
      refine o_istore X_294 K at_174 176 rfl #[.val (.long p0), .second, .val (.long p1), .second, .val (.long p2), .second, .val (.int p3), .val (.int (2 : Int32)), .val (.int (2 : Int32)), .val (.ref b), .val (.int (1 : Int32))] rfl rfl ?_
      refine o_iload X_294 K at_176 178 rfl rfl ?_
      refine o_if_eq_f X_294 K at_178 181 rfl (by decide) ?_
      refine o_iload X_294 K at_181 183 rfl rfl ?_
      refine o_iconst X_294 K (2 : Int32) at_183 184 rfl rfl ?_
      refine o_icmp_le_t X_294 K at_184 206 (by decide) (by decide) (by decide) ?_
      refine o_iload X_294 K at_206 208 rfl rfl ?_
      refine o_ireturnN X_294 K (by decide) at_208 (by decide) (by decide) N_294 ?_
      exact rfl
    · skip
      refine o_iload X_252 K at_23 25 rfl rfl ?_
      refine o_if_ne_t X_252 K at_25 33 (by decide) (by decide) (by decide) ?_
      refine o_iload X_252 K at_33 35 rfl rfl ?_
      refine o_if_le_f X_252 K at_35 38 rfl (by decide) ?_
      refine o_aload X_252 K at_38 40 rfl rfl rfl ?_
      refine o_lloadN X_252 K at_40 41 rfl rfl ?_
      refine o_invokevirtual X_252 K at_41 44 rfl (w_33 hw) (w_34 hw) (w_36 hw) (w_35 hw) (w_2 hw) (w_37 hw) (by decide) W_252.exa [(.long p0)] [] rfl  (c_add l Z a0 hw n0 b 0 (fun _ => 0) 64 p0 h_252 Z_252 W_252 g_b (by decide)) e_252 rfl (lenOf pd__J_V rfl) (by decide) 0 (Nat.le_of_eq rfl) (by decide) (by decide) (by decide) N_252 ?_
      rintro _ T_295 h_295 locs_295 X_295 e_295 ⟨rfl, W_295⟩ N_295
      have Z_295 := W_295.1
      replace W_295 : own_W Z h_295 n0 b 1 (fun j => if j = 0 then p0 else (fun _ => 0) j) 64 := W_295
      show OGo p e below s n0 _ _ _ (T_295.setTop (mkF m 44 #[.val (.long p0), .second, .val (.long p1), .second, .val (.long p2), .second, .val (.int p3), .val (.int (2 : Int32)), .val (.int (3 : Int32)), .val (.ref b), .unset] []))
      refine o_iload X_295 K at_44 46 rfl rfl ?_
      refine o_iconst X_295 K (1 : Int32) at_46 47 rfl rfl ?_
      refine o_icmp_ne_t X_295 K at_47 55 (by decide) (by decide) (by decide) ?_
      refine o_iload X_295 K at_55 57 rfl rfl ?_
      refine o_iconst X_295 K (1 : Int32) at_57 58 rfl rfl ?_
      refine o_icmp_le_f X_295 K at_58 61 rfl (by decide) ?_
      refine o_aload X_295 K at_61 63 rfl rfl rfl ?_
      refine o_lloadN X_295 K at_63 64 rfl rfl ?_
      refine o_invokevirtual X_295 K at_64 67 rfl (w_33 hw) (w_34 hw) (w_36 hw) (w_35 hw) (w_2 hw) (w_37 hw) (by decide) W_295.exa [(.long p1)] [] rfl  (c_add l Z a0 hw n0 b 1 (fun j => if j = 0 then p0 else (fun _ => 0) j) 64 p1 h_295 Z_295 W_295 g_b (by decide)) e_295 rfl (lenOf pd__J_V rfl) (by decide) 0 (Nat.le_of_eq rfl) (by decide) (by decide) (by decide) N_295 ?_
      rintro _ T_296 h_296 locs_296 X_296 e_296 ⟨rfl, W_296⟩ N_296
      have Z_296 := W_296.1
      replace W_296 : own_W Z h_296 n0 b 2 (fun j => if j = 1 then p1 else (fun j => if j = 0 then p0 else (fun _ => 0) j) j) 64 := W_296
      show OGo p e below s n0 _ _ _ (T_296.setTop (mkF m 67 #[.val (.long p0), .second, .val (.long p1), .second, .val (.long p2), .second, .val (.int p3), .val (.int (2 : Int32)), .val (.int (3 : Int32)), .val (.ref b), .unset] []))
      refine o_iload X_296 K at_67 69 rfl rfl ?_
      refine o_iconst X_296 K (2 : Int32) at_69 70 rfl rfl ?_
      refine o_icmp_ne_t X_296 K at_70 78 (by decide) (by decide) (by decide) ?_
      refine o_iload X_296 K at_78 80 rfl rfl ?_
      refine o_iconst X_296 K (2 : Int32) at_80 81 rfl rfl ?_
      refine o_icmp_le_t X_296 K at_81 91 (by decide) (by decide) (by decide) ?_
      refine o_iload X_296 K at_91 93 rfl rfl ?_
      refine o_iconst X_296 K (3 : Int32) at_93 94 rfl rfl ?_
      refine o_icmp_ne_f X_296 K at_94 97 rfl (by decide) ?_
      refine o_aload X_296 K at_97 99 rfl rfl rfl ?_
      refine o_invokevirtual X_296 K at_99 102 rfl (w_12 hw) (w_13 hw) (w_15 hw) (w_14 hw) (w_2 hw) (w_16 hw) (by decide) W_296.exa [] [] rfl  (c_trim l Z a0 hw n0 b 2 (fun j => if j = 1 then p1 else (fun j => if j = 0 then p0 else (fun _ => 0) j) j) 64 h_296 Z_296 W_296 g_b (by decide)) e_296 rfl (lenOf pd___V rfl) (by decide) 0 (Nat.le_of_eq rfl) (by decide) (by decide) (by decide) N_296 ?_
      rintro _ T_297 h_297 locs_297 X_297 e_297 ⟨rfl, W_297⟩ N_297
      have Z_297 := W_297.1
      show OGo p e below s n0 _ _ _ (T_297.setTop (mkF m 102 #[.val (.long p0), .second, .val (.long p1), .second, .val (.long p2), .second, .val (.int p3), .val (.int (2 : Int32)), .val (.int (3 : Int32)), .val (.ref b), .unset] []))
      refine o_aload X_297 K at_102 104 rfl rfl rfl ?_
      obtain ⟨sz, hsz, F_sz⟩ : ∃ sz : Int32, sz.toInt = (2 : Nat) ∧ Fld Z h_297 b "com/example/planwright/planwright/WholeNumbers" "size" "I" (.int sz) := by rcases W_297.2 with ⟨_, _, sz, -, -, h1, -, h2, -⟩ | ⟨_, _, sz, -, -, h1, -, h2, -⟩ <;> exact ⟨sz, h1, h2⟩
      refine o_invokevirtual X_297 K at_104 107 rfl (w_45 hw) (w_46 hw) (w_48 hw) (w_47 hw) (w_2 hw) (w_49 hw) (by decide) W_297.exa [] [] rfl  (c_size l Z a0 hw n0 b sz h_297 Z_297 F_sz) e_297 rfl (lenOf pd___I rfl) (by decide) 0 (Nat.le_of_eq rfl) (by decide) (by decide) (by decide) N_297 ?_
      rintro _ T_298 h_298 locs_298 X_298 q_298 ⟨rfl, r_298⟩ N_298
      have e_298 := q_298.trans r_298
      show OGo p e below s n0 _ _ _ (T_298.setTop (mkF m 107 #[.val (.long p0), .second, .val (.long p1), .second, .val (.long p2), .second, .val (.int p3), .val (.int (2 : Int32)), .val (.int (3 : Int32)), .val (.ref b), .unset] [(.int sz)]))
      refine o_iload X_298 K at_107 109 rfl rfl ?_
      refine o_icmp_ne_f X_298 K at_109 112 rfl (Int32.toInt_inj.mp (by rw [hsz]; rfl)) ?_
      refine o_iconst X_298 K (1 : Int32) at_112 113 rfl rfl ?_
      refine o_goto X_298 K at_113 117 (by decide) (by decide) ?_
      refine o_istore X_298 K at_117 119 rfl #[.val (.long p0), .second, .val (.long p1), .second, .val (.long p2), .second, .val (.int p3), .val (.int (2 : Int32)), .val (.int (3 : Int32)), .val (.ref b), .val (.int (1 : Int32))] rfl rfl ?_
      refine o_iload X_298 K at_119 121 rfl rfl ?_
      refine o_if_eq_f X_298 K at_121 124 rfl (by decide) ?_
      refine o_iload X_298 K at_124 126 rfl rfl ?_
      refine o_if_le_f X_298 K at_126 129 rfl (by decide) ?_
      refine o_aload X_298 K at_129 131 rfl rfl rfl ?_
      refine o_iconst X_298 K (0 : Int32) at_131 132 rfl rfl ?_
      refine o_invokevirtual X_298 K at_132 135 rfl (w_50 hw) (w_51 hw) (w_53 hw) (w_52 hw) (w_2 hw) (w_54 hw) (by decide) W_297.exa [(.int (0 : Int32))] [] rfl  (c_get l Z a0 hw n0 b 2 (fun j => if j = 1 then p1 else (fun j => if j = 0 then p0 else (fun _ => 0) j) j) 2 (0 : Int32) 0 h_297 Z_297 W_297 (by decide)) e_298 rfl (lenOf pd__I_J rfl) (by decide) 0 (Nat.le_of_eq rfl) (by decide) (by decide) (by decide) N_298 ?_
      rintro _ T_299 h_299 locs_299 X_299 q_299 ⟨rfl, r_299⟩ N_299
      have e_299 := q_299.trans r_299
      show OGo p e below s n0 _ _ _ (T_299.setTop (mkF m 135 #[.val (.long p0), .second, .val (.long p1), .second, .val (.long p2), .second, .val (.int p3), .val (.int (2 : Int32)), .val (.int (3 : Int32)), .val (.ref b), .val (.int (1 : Int32))] [(.long p0)]))
      refine o_lloadN X_299 K at_135 136 rfl rfl ?_
      refine o_lcmp X_299 K at_136 137 rfl ?_
      refine o_if_ne_f X_299 K at_137 140 rfl ((lw_eq _ _).mpr rfl) ?_
      refine o_iconst X_299 K (1 : Int32) at_140 141 rfl rfl ?_
      refine o_goto X_299 K at_141 145 (by decide) (by decide) ?_
      refine o_istore X_299 K at_145 147 rfl #[.val (.long p0), .second, .val (.long p1), .second, .val (.long p2), .second, .val (.int p3), .val (.int (2 : Int32)), .val (.int (3 : Int32)), .val (.ref b), .val (.int (1 : Int32))] rfl rfl ?_
      refine o_iload X_299 K at_147 149 rfl rfl ?_
      refine o_if_eq_f X_299 K at_149 152 rfl (by decide) ?_
      refine o_iload X_299 K at_152 154 rfl rfl ?_
      refine o_iconst X_299 K (1 : Int32) at_154 155 rfl rfl ?_
      refine o_icmp_le_f X_299 K at_155 158 rfl (by decide) ?_
      refine o_aload X_299 K at_158 160 rfl rfl rfl ?_
      refine o_iconst X_299 K (1 : Int32) at_160 161 rfl rfl ?_
      refine o_invokevirtual X_299 K at_161 164 rfl (w_50 hw) (w_51 hw) (w_53 hw) (w_52 hw) (w_2 hw) (w_54 hw) (by decide) W_297.exa [(.int (1 : Int32))] [] rfl  (c_get l Z a0 hw n0 b 2 (fun j => if j = 1 then p1 else (fun j => if j = 0 then p0 else (fun _ => 0) j) j) 2 (1 : Int32) 1 h_297 Z_297 W_297 (by decide)) e_299 rfl (lenOf pd__I_J rfl) (by decide) 0 (Nat.le_of_eq rfl) (by decide) (by decide) (by decide) N_299 ?_
      rintro _ T_300 h_300 locs_300 X_300 q_300 ⟨rfl, r_300⟩ N_300
      have e_300 := q_300.trans r_300
      show OGo p e below s n0 _ _ _ (T_300.setTop (mkF m 164 #[.val (.long p0), .second, .val (.long p1), .second, .val (.long p2), .second, .val (.int p3), .val (.int (2 : Int32)), .val (.int (3 : Int32)), .val (.ref b), .val (.int (1 : Int32))] [(.long p1)]))
      refine o_lloadN X_300 K at_164 165 rfl rfl ?_
      refine o_lcmp X_300 K at_165 166 rfl ?_
      refine o_if_ne_f X_300 K at_166 169 rfl ((lw_eq _ _).mpr rfl) ?_
      refine o_iconst X_300 K (1 : Int32) at_169 170 rfl rfl ?_
      refine o_goto X_300 K at_170 174 (by decide) (by decide) ?_
      refine o_istore X_300 K at_174 176 rfl #[.val (.long p0), .second, .val (.long p1), .second, .val (.long p2), .second, .val (.int p3), .val (.int (2 : Int32)), .val (.int (3 : Int32)), .val (.ref b), .val (.int (1 : Int32))] rfl rfl ?_
      refine o_iload X_300 K at_176 178 rfl rfl ?_
      refine o_if_eq_f X_300 K at_178 181 rfl (by decide) ?_
      refine o_iload X_300 K at_181 183 rfl rfl ?_
      refine o_iconst X_300 K (2 : Int32) at_183 184 rfl rfl ?_
      refine o_icmp_le_t X_300 K at_184 206 (by decide) (by decide) (by decide) ?_
      refine o_iload X_300 K at_206 208 rfl rfl ?_
      refine o_ireturnN X_300 K (by decide) at_208 (by decide) (by decide) N_300 ?_
      exact rfl
  · skip
    rcases own_four ta hta with rfl | rfl | rfl | rfl
    · skip
      refine o_iload X_252 K at_23 25 rfl rfl ?_
      refine o_if_ne_f X_252 K at_25 28 rfl (by decide) ?_
      refine o_aload X_252 K at_28 30 rfl rfl rfl ?_
      refine o_invokevirtual X_252 K at_30 33 rfl (w_12 hw) (w_13 hw) (w_15 hw) (w_14 hw) (w_2 hw) (w_16 hw) (by decide) W_252.exa [] [] rfl  (c_trim l Z a0 hw n0 b 0 (fun _ => 0) 64 h_252 Z_252 W_252 g_b (by decide)) e_252 rfl (lenOf pd___V rfl) (by decide) 0 (Nat.le_of_eq rfl) (by decide) (by decide) (by decide) N_252 ?_
      rintro _ T_301 h_301 locs_301 X_301 e_301 ⟨rfl, W_301⟩ N_301
      have Z_301 := W_301.1
      show OGo p e below s n0 _ _ _ (T_301.setTop (mkF m 33 #[.val (.long p0), .second, .val (.long p1), .second, .val (.long p2), .second, .val (.int p3), .val (.int (3 : Int32)), .val (.int (0 : Int32)), .val (.ref b), .unset] []))
      refine o_iload X_301 K at_33 35 rfl rfl ?_
      refine o_if_le_f X_301 K at_35 38 rfl (by decide) ?_
      refine o_aload X_301 K at_38 40 rfl rfl rfl ?_
      refine o_lloadN X_301 K at_40 41 rfl rfl ?_
      refine o_invokevirtual X_301 K at_41 44 rfl (w_33 hw) (w_34 hw) (w_36 hw) (w_35 hw) (w_2 hw) (w_37 hw) (by decide) W_301.exa [(.long p0)] [] rfl  (c_add l Z a0 hw n0 b 0 (fun _ => 0) 0 p0 h_301 Z_301 W_301 g_b (by decide)) e_301 rfl (lenOf pd__J_V rfl) (by decide) 0 (Nat.le_of_eq rfl) (by decide) (by decide) (by decide) N_301 ?_
      rintro _ T_302 h_302 locs_302 X_302 e_302 ⟨rfl, W_302⟩ N_302
      have Z_302 := W_302.1
      replace W_302 : own_W Z h_302 n0 b 1 (fun j => if j = 0 then p0 else (fun _ => 0) j) 1 := W_302
      show OGo p e below s n0 _ _ _ (T_302.setTop (mkF m 44 #[.val (.long p0), .second, .val (.long p1), .second, .val (.long p2), .second, .val (.int p3), .val (.int (3 : Int32)), .val (.int (0 : Int32)), .val (.ref b), .unset] []))
      refine o_iload X_302 K at_44 46 rfl rfl ?_
      refine o_iconst X_302 K (1 : Int32) at_46 47 rfl rfl ?_
      refine o_icmp_ne_t X_302 K at_47 55 (by decide) (by decide) (by decide) ?_
      refine o_iload X_302 K at_55 57 rfl rfl ?_
      refine o_iconst X_302 K (1 : Int32) at_57 58 rfl rfl ?_
      refine o_icmp_le_f X_302 K at_58 61 rfl (by decide) ?_
      refine o_aload X_302 K at_61 63 rfl rfl rfl ?_
      refine o_lloadN X_302 K at_63 64 rfl rfl ?_
      refine o_invokevirtual X_302 K at_64 67 rfl (w_33 hw) (w_34 hw) (w_36 hw) (w_35 hw) (w_2 hw) (w_37 hw) (by decide) W_302.exa [(.long p1)] [] rfl  (c_add l Z a0 hw n0 b 1 (fun j => if j = 0 then p0 else (fun _ => 0) j) 1 p1 h_302 Z_302 W_302 g_b (by decide)) e_302 rfl (lenOf pd__J_V rfl) (by decide) 0 (Nat.le_of_eq rfl) (by decide) (by decide) (by decide) N_302 ?_
      rintro _ T_303 h_303 locs_303 X_303 e_303 ⟨rfl, W_303⟩ N_303
      have Z_303 := W_303.1
      replace W_303 : own_W Z h_303 n0 b 2 (fun j => if j = 1 then p1 else (fun j => if j = 0 then p0 else (fun _ => 0) j) j) 2 := W_303
      show OGo p e below s n0 _ _ _ (T_303.setTop (mkF m 67 #[.val (.long p0), .second, .val (.long p1), .second, .val (.long p2), .second, .val (.int p3), .val (.int (3 : Int32)), .val (.int (0 : Int32)), .val (.ref b), .unset] []))
      refine o_iload X_303 K at_67 69 rfl rfl ?_
      refine o_iconst X_303 K (2 : Int32) at_69 70 rfl rfl ?_
      refine o_icmp_ne_t X_303 K at_70 78 (by decide) (by decide) (by decide) ?_
      refine o_iload X_303 K at_78 80 rfl rfl ?_
      refine o_iconst X_303 K (2 : Int32) at_80 81 rfl rfl ?_
      refine o_icmp_le_f X_303 K at_81 84 rfl (by decide) ?_
      refine o_aload X_303 K at_84 86 rfl rfl rfl ?_
      refine o_lload X_303 K at_86 88 rfl rfl ?_
      refine o_invokevirtual X_303 K at_88 91 rfl (w_33 hw) (w_34 hw) (w_36 hw) (w_35 hw) (w_2 hw) (w_37 hw) (by decide) W_303.exa [(.long p2)] [] rfl  (c_add l Z a0 hw n0 b 2 (fun j => if j = 1 then p1 else (fun j => if j = 0 then p0 else (fun _ => 0) j) j) 2 p2 h_303 Z_303 W_303 g_b (by decide)) e_303 rfl (lenOf pd__J_V rfl) (by decide) 0 (Nat.le_of_eq rfl) (by decide) (by decide) (by decide) N_303 ?_
      rintro _ T_304 h_304 locs_304 X_304 e_304 ⟨rfl, W_304⟩ N_304
      have Z_304 := W_304.1
      replace W_304 : own_W Z h_304 n0 b 3 (fun j => if j = 2 then p2 else (fun j => if j = 1 then p1 else (fun j => if j = 0 then p0 else (fun _ => 0) j) j) j) 3 := W_304
      show OGo p e below s n0 _ _ _ (T_304.setTop (mkF m 91 #[.val (.long p0), .second, .val (.long p1), .second, .val (.long p2), .second, .val (.int p3), .val (.int (3 : Int32)), .val (.int (0 : Int32)), .val (.ref b), .unset] []))
      refine o_iload X_304 K at_91 93 rfl rfl ?_
      refine o_iconst X_304 K (3 : Int32) at_93 94 rfl rfl ?_
      refine o_icmp_ne_t X_304 K at_94 102 (by decide) (by decide) (by decide) ?_
      refine o_aload X_304 K at_102 104 rfl rfl rfl ?_
      obtain ⟨sz, hsz, F_sz⟩ : ∃ sz : Int32, sz.toInt = (3 : Nat) ∧ Fld Z h_304 b "com/example/planwright/planwright/WholeNumbers" "size" "I" (.int sz) := by rcases W_304.2 with ⟨_, _, sz, -, -, h1, -, h2, -⟩ | ⟨_, _, sz, -, -, h1, -, h2, -⟩ <;> exact ⟨sz, h1, h2⟩
      refine o_invokevirtual X_304 K at_104 107 rfl (w_45 hw) (w_46 hw) (w_48 hw) (w_47 hw) (w_2 hw) (w_49 hw) (by decide) W_304.exa [] [] rfl  (c_size l Z a0 hw n0 b sz h_304 Z_304 F_sz) e_304 rfl (lenOf pd___I rfl) (by decide) 0 (Nat.le_of_eq rfl) (by decide) (by decide) (by decide) N_304 ?_
      rintro _ T_305 h_305 locs_305 X_305 q_305 ⟨rfl, r_305⟩ N_305
      have e_305 := q_305.trans r_305
      show OGo p e below s n0 _ _ _ (T_305.setTop (mkF m 107 #[.val (.long p0), .second, .val (.long p1), .second, .val (.long p2), .second, .val (.int p3), .val (.int (3 : Int32)), .val (.int (0 : Int32)), .val (.ref b), .unset] [(.int sz)]))
      refine o_iload X_305 K at_107 109 rfl rfl ?_
      refine o_icmp_ne_f X_305 K at_109 112 rfl (Int32.toInt_inj.mp (by rw [hsz]; rfl)) ?_
      refine o_iconst X_305 K (1 : Int32) at_112 113 rfl rfl ?_
      refine o_goto X_305 K at_113 117 (by decide) (by decide) ?_
      refine o_istore X_305 K at_117 119 rfl #[.val (.long p0), .second, .val (.long p1), .second, .val (.long p2), .second, .val (.int p3), .val (.int (3 : Int32)), .val (.int (0 : Int32)), .val (.ref b), .val (.int (1 : Int32))] rfl rfl ?_
      refine o_iload X_305 K at_119 121 rfl rfl ?_
      refine o_if_eq_f X_305 K at_121 124 rfl (by decide) ?_
      refine o_iload X_305 K at_124 126 rfl rfl ?_
      refine o_if_le_f X_305 K at_126 129 rfl (by decide) ?_
      refine o_aload X_305 K at_129 131 rfl rfl rfl ?_
      refine o_iconst X_305 K (0 : Int32) at_131 132 rfl rfl ?_
      refine o_invokevirtual X_305 K at_132 135 rfl (w_50 hw) (w_51 hw) (w_53 hw) (w_52 hw) (w_2 hw) (w_54 hw) (by decide) W_304.exa [(.int (0 : Int32))] [] rfl  (c_get l Z a0 hw n0 b 3 (fun j => if j = 2 then p2 else (fun j => if j = 1 then p1 else (fun j => if j = 0 then p0 else (fun _ => 0) j) j) j) 3 (0 : Int32) 0 h_304 Z_304 W_304 (by decide)) e_305 rfl (lenOf pd__I_J rfl) (by decide) 0 (Nat.le_of_eq rfl) (by decide) (by decide) (by decide) N_305 ?_
      rintro _ T_306 h_306 locs_306 X_306 q_306 ⟨rfl, r_306⟩ N_306
      have e_306 := q_306.trans r_306
      show OGo p e below s n0 _ _ _ (T_306.setTop (mkF m 135 #[.val (.long p0), .second, .val (.long p1), .second, .val (.long p2), .second, .val (.int p3), .val (.int (3 : Int32)), .val (.int (0 : Int32)), .val (.ref b), .val (.int (1 : Int32))] [(.long p0)]))
      refine o_lloadN X_306 K at_135 136 rfl rfl ?_
      refine o_lcmp X_306 K at_136 137 rfl ?_
      refine o_if_ne_f X_306 K at_137 140 rfl ((lw_eq _ _).mpr rfl) ?_
      refine o_iconst X_306 K (1 : Int32) at_140 141 rfl rfl ?_
      refine o_goto X_306 K at_141 145 (by decide) (by decide) ?_
      refine o_istore X_306 K at_145 147 rfl #[.val (.long p0), .second, .val (.long p1), .second, .val (.long p2), .second, .val (.int p3), .val (.int (3 : Int32)), .val (.int (0 : Int32)), .val (.ref b), .val (.int (1 : Int32))] rfl rfl ?_
      refine o_iload X_306 K at_147 149 rfl rfl ?_
      refine o_if_eq_f X_306 K at_149 152 rfl (by decide) ?_
      refine o_iload X_306 K at_152 154 rfl rfl ?_
      refine o_iconst X_306 K (1 : Int32) at_154 155 rfl rfl ?_
      refine o_icmp_le_f X_306 K at_155 158 rfl (by decide) ?_
      refine o_aload X_306 K at_158 160 rfl rfl rfl ?_
      refine o_iconst X_306 K (1 : Int32) at_160 161 rfl rfl ?_
      refine o_invokevirtual X_306 K at_161 164 rfl (w_50 hw) (w_51 hw) (w_53 hw) (w_52 hw) (w_2 hw) (w_54 hw) (by decide) W_304.exa [(.int (1 : Int32))] [] rfl  (c_get l Z a0 hw n0 b 3 (fun j => if j = 2 then p2 else (fun j => if j = 1 then p1 else (fun j => if j = 0 then p0 else (fun _ => 0) j) j) j) 3 (1 : Int32) 1 h_304 Z_304 W_304 (by decide)) e_306 rfl (lenOf pd__I_J rfl) (by decide) 0 (Nat.le_of_eq rfl) (by decide) (by decide) (by decide) N_306 ?_
      rintro _ T_307 h_307 locs_307 X_307 q_307 ⟨rfl, r_307⟩ N_307
      have e_307 := q_307.trans r_307
      show OGo p e below s n0 _ _ _ (T_307.setTop (mkF m 164 #[.val (.long p0), .second, .val (.long p1), .second, .val (.long p2), .second, .val (.int p3), .val (.int (3 : Int32)), .val (.int (0 : Int32)), .val (.ref b), .val (.int (1 : Int32))] [(.long p1)]))
      refine o_lloadN X_307 K at_164 165 rfl rfl ?_
      refine o_lcmp X_307 K at_165 166 rfl ?_
      refine o_if_ne_f X_307 K at_166 169 rfl ((lw_eq _ _).mpr rfl) ?_
      refine o_iconst X_307 K (1 : Int32) at_169 170 rfl rfl ?_
      refine o_goto X_307 K at_170 174 (by decide) (by decide) ?_
      refine o_istore X_307 K at_174 176 rfl #[.val (.long p0), .second, .val (.long p1), .second, .val (.long p2), .second, .val (.int p3), .val (.int (3 : Int32)), .val (.int (0 : Int32)), .val (.ref b), .val (.int (1 : Int32))] rfl rfl ?_
      refine o_iload X_307 K at_176 178 rfl rfl ?_
      refine o_if_eq_f X_307 K at_178 181 rfl (by decide) ?_
      refine o_iload X_307 K at_181 183 rfl rfl ?_
      refine o_iconst X_307 K (2 : Int32) at_183 184 rfl rfl ?_
      refine o_icmp_le_f X_307 K at_184 187 rfl (by decide) ?_
      refine o_aload X_307 K at_187 189 rfl rfl rfl ?_
      refine o_iconst X_307 K (2 : Int32) at_189 190 rfl rfl ?_
      refine o_invokevirtual X_307 K at_190 193 rfl (w_50 hw) (w_51 hw) (w_53 hw) (w_52 hw) (w_2 hw) (w_54 hw) (by decide) W_304.exa [(.int (2 : Int32))] [] rfl  (c_get l Z a0 hw n0 b 3 (fun j => if j = 2 then p2 else (fun j => if j = 1 then p1 else (fun j => if j = 0 then p0 else (fun _ => 0) j) j) j) 3 (2 : Int32) 2 h_304 Z_304 W_304 (by decide)) e_307 rfl (lenOf pd__I_J rfl) (by decide) 0 (Nat.le_of_eq rfl) (by decide) (by decide) (by decide) N_307 ?_
      rintro _ T_308 h_308 locs_308 X_308 q_308 ⟨rfl, r_308⟩ N_308
      have e_308 := q_308.trans r_308
      show OGo p e below s n0 _ _ _ (T_308.setTop (mkF m 193 #[.val (.long p0), .second, .val (.long p1), .second, .val (.long p2), .second, .val (.int p3), .val (.int (3 : Int32)), .val (.int (0 : Int32)), .val (.ref b), .val (.int (1 : Int32))] [(.long p2)]))
      refine o_lload X_308 K at_193 195 rfl rfl ?_
      refine o_lcmp X_308 K at_195 196 rfl ?_
      refine o_if_ne_f X_308 K at_196 199 rfl ((lw_eq _ _).mpr rfl) ?_
      refine o_iconst X_308 K (1 : Int32) at_199 200 rfl rfl ?_
      refine o_goto X_308 K at_200 204 (by decide) (by decide) ?_
      refine o_istore X_308 K at_204 206 rfl #[.val (.long p0), .second, .val (.long p1), .second, .val (.long p2), .second, .val (.int p3), .val (.int (3 : Int32)), .val (.int (0 : Int32)), .val (.ref b), .val (.int (1 : Int32))] rfl rfl ?_
      refine o_iload X_308 K at_206 208 rfl rfl ?_
      refine o_ireturnN X_308 K (by decide) at_208 (by decide) (by decide) N_308 ?_
      exact rfl
    · skip
      refine o_iload X_252 K at_23 25 rfl rfl ?_
      refine o_if_ne_t X_252 K at_25 33 (by decide) (by decide) (by decide) ?_
      refine o_iload X_252 K at_33 35 rfl rfl ?_
      refine o_if_le_f X_252 K at_35 38 rfl (by decide) ?_
      refine o_aload X_252 K at_38 40 rfl rfl rfl ?_
      refine o_lloadN X_252 K at_40 41 rfl rfl ?_
      refine o_invokevirtual X_252 K at_41 44 rfl (w_33 hw) (w_34 hw) (w_36 hw) (w_35 hw) (w_2 hw) (w_37 hw) (by decide) W_252.exa [(.long p0)] [] rfl  (c_add l Z a0 hw n0 b 0 (fun _ => 0) 64 p0 h_252 Z_252 W_252 g_b (by decide)) e_252 rfl (lenOf pd__J_V rfl) (by decide) 0 (Nat.le_of_eq rfl) (by decide) (by decide) (by decide) N_252 ?_
      rintro _ T_309 h_309 locs_309 X_309 e_309 ⟨rfl, W_309⟩ N_309
      have Z_309 := W_309.1
      replace W_309 : own_W Z h_309 n0 b 1 (fun j => if j = 0 then p0 else (fun _ => 0) j) 64 := W_309
      show OGo p e below s n0 _ _ _ (T_309.setTop (mkF m 44 #[.val (.long p0), .second, .val (.long p1), .second, .val (.long p2), .second, .val (.int p3), .val (.int (3 : Int32)), .val (.int (1 : Int32)), .val (.ref b), .unset] []))
      refine o_iload X_309 K at_44 46 rfl rfl ?_
      refine o_iconst X_309 K (1 : Int32) at_46 47 rfl rfl ?_
      refine o_icmp_ne_f X_309 K at_47 50 rfl (by decide) ?_
      refine o_aload X_309 K at_50 52 rfl rfl rfl ?_
      refine o_invokevirtual X_309 K at_52 55 rfl (w_12 hw) (w_13 hw) (w_15 hw) (w_14 hw) (w_2 hw) (w_16 hw) (by decide) W_309.exa [] [] rfl  (c_trim l Z a0 hw n0 b 1 (fun j => if j = 0 then p0 else (fun _ => 0) j) 64 h_309 Z_309 W_309 g_b (by decide)) e_309 rfl (lenOf pd___V rfl) (by decide) 0 (Nat.le_of_eq rfl) (by decide) (by decide) (by decide) N_309 ?_
      rintro _ T_310 h_310 locs_310 X_310 e_310 ⟨rfl, W_310⟩ N_310
      have Z_310 := W_310.1
      show OGo p e below s n0 _ _ _ (T_310.setTop (mkF m 55 #[.val (.long p0), .second, .val (.long p1), .second, .val (.long p2), .second, .val (.int p3), .val (.int (3 : Int32)), .val (.int (1 : Int32)), .val (.ref b), .unset] []))
      refine o_iload X_310 K at_55 57 rfl rfl ?_
      refine o_iconst X_310 K (1 : Int32) at_57 58 rfl rfl ?_
      refine o_icmp_le_f X_310 K at_58 61 rfl (by decide) ?_
      refine o_aload X_310 K at_61 63 rfl rfl rfl ?_
      refine o_lloadN X_310 K at_63 64 rfl rfl ?_
      refine o_invokevirtual X_310 K at_64 67 rfl (w_33 hw) (w_34 hw) (w_36 hw) (w_35 hw) (w_2 hw) (w_37 hw) (by decide) W_310.exa [(.long p1)] [] rfl  (c_add l Z a0 hw n0 b 1 (fun j => if j = 0 then p0 else (fun _ => 0) j) 1 p1 h_310 Z_310 W_310 g_b (by decide)) e_310 rfl (lenOf pd__J_V rfl) (by decide) 0 (Nat.le_of_eq rfl) (by decide) (by decide) (by decide) N_310 ?_
      rintro _ T_311 h_311 locs_311 X_311 e_311 ⟨rfl, W_311⟩ N_311
      have Z_311 := W_311.1
      replace W_311 : own_W Z h_311 n0 b 2 (fun j => if j = 1 then p1 else (fun j => if j = 0 then p0 else (fun _ => 0) j) j) 2 := W_311
      show OGo p e below s n0 _ _ _ (T_311.setTop (mkF m 67 #[.val (.long p0), .second, .val (.long p1), .second, .val (.long p2), .second, .val (.int p3), .val (.int (3 : Int32)), .val (.int (1 : Int32)), .val (.ref b), .unset] []))
      refine o_iload X_311 K at_67 69 rfl rfl ?_
      refine o_iconst X_311 K (2 : Int32) at_69 70 rfl rfl ?_
      refine o_icmp_ne_t X_311 K at_70 78 (by decide) (by decide) (by decide) ?_
      refine o_iload X_311 K at_78 80 rfl rfl ?_
      refine o_iconst X_311 K (2 : Int32) at_80 81 rfl rfl ?_
      refine o_icmp_le_f X_311 K at_81 84 rfl (by decide) ?_
      refine o_aload X_311 K at_84 86 rfl rfl rfl ?_
      refine o_lload X_311 K at_86 88 rfl rfl ?_
      refine o_invokevirtual X_311 K at_88 91 rfl (w_33 hw) (w_34 hw) (w_36 hw) (w_35 hw) (w_2 hw) (w_37 hw) (by decide) W_311.exa [(.long p2)] [] rfl  (c_add l Z a0 hw n0 b 2 (fun j => if j = 1 then p1 else (fun j => if j = 0 then p0 else (fun _ => 0) j) j) 2 p2 h_311 Z_311 W_311 g_b (by decide)) e_311 rfl (lenOf pd__J_V rfl) (by decide) 0 (Nat.le_of_eq rfl) (by decide) (by decide) (by decide) N_311 ?_
      rintro _ T_312 h_312 locs_312 X_312 e_312 ⟨rfl, W_312⟩ N_312
      have Z_312 := W_312.1
      replace W_312 : own_W Z h_312 n0 b 3 (fun j => if j = 2 then p2 else (fun j => if j = 1 then p1 else (fun j => if j = 0 then p0 else (fun _ => 0) j) j) j) 3 := W_312
      show OGo p e below s n0 _ _ _ (T_312.setTop (mkF m 91 #[.val (.long p0), .second, .val (.long p1), .second, .val (.long p2), .second, .val (.int p3), .val (.int (3 : Int32)), .val (.int (1 : Int32)), .val (.ref b), .unset] []))
      refine o_iload X_312 K at_91 93 rfl rfl ?_
      refine o_iconst X_312 K (3 : Int32) at_93 94 rfl rfl ?_
      refine o_icmp_ne_t X_312 K at_94 102 (by decide) (by decide) (by decide) ?_
      refine o_aload X_312 K at_102 104 rfl rfl rfl ?_
      obtain ⟨sz, hsz, F_sz⟩ : ∃ sz : Int32, sz.toInt = (3 : Nat) ∧ Fld Z h_312 b "com/example/planwright/planwright/WholeNumbers" "size" "I" (.int sz) := by rcases W_312.2 with ⟨_, _, sz, -, -, h1, -, h2, -⟩ | ⟨_, _, sz, -, -, h1, -, h2, -⟩ <;> exact ⟨sz, h1, h2⟩
      refine o_invokevirtual X_312 K at_104 107 rfl (w_45 hw) (w_46 hw) (w_48 hw) (w_47 hw) (w_2 hw) (w_49 hw) (by decide) W_312.exa [] [] rfl  (c_size l Z a0 hw n0 b sz h_312 Z_312 F_sz) e_312 rfl (lenOf pd___I rfl) (by decide) 0 (Nat.le_of_eq rfl) (by decide) (by decide) (by decide) N_312 ?_
      rintro _ T_313 h_313 locs_313 X_313 q_313 ⟨rfl, r_313⟩ N_313
      have e_313 := q_313.trans r_313
      show OGo p e below s n0 _ _ _ (T_313.setTop (mkF m 107 #[.val (.long p0), .second, .val (.long p1), .second, .val (.long p2), .second, .val (.int p3), .val (.int (3 : Int32)), .val (.int (1 : Int32)), .val (.ref b), .unset] [(.int sz)]))
      refine o_iload X_313 K at_107 109 rfl rfl ?_
      refine o_icmp_ne_f X_313 K at_109 112 rfl (Int32.toInt_inj.mp (by rw [hsz]; rfl)) ?_
      refine o_iconst X_313 K (1 : Int32) at_112 113 rfl rfl ?_
      refine o_goto X_313 K at_113 117 (by decide) (by decide) ?_
      refine o_istore X_313 K at_117 119 rfl #[.val (.long p0), .second, .val (.long p1), .second, .val (.long p2), .second, .val (.int p3), .val (.int (3 : Int32)), .val (.int (1 : Int32)), .val (.ref b), .val (.int (1 : Int32))] rfl rfl ?_
      refine o_iload X_313 K at_119 121 rfl rfl ?_
      refine o_if_eq_f X_313 K at_121 124 rfl (by decide) ?_
      refine o_iload X_313 K at_124 126 rfl rfl ?_
      refine o_if_le_f X_313 K at_126 129 rfl (by decide) ?_
      refine o_aload X_313 K at_129 131 rfl rfl rfl ?_
      refine o_iconst X_313 K (0 : Int32) at_131 132 rfl rfl ?_
      refine o_invokevirtual X_313 K at_132 135 rfl (w_50 hw) (w_51 hw) (w_53 hw) (w_52 hw) (w_2 hw) (w_54 hw) (by decide) W_312.exa [(.int (0 : Int32))] [] rfl  (c_get l Z a0 hw n0 b 3 (fun j => if j = 2 then p2 else (fun j => if j = 1 then p1 else (fun j => if j = 0 then p0 else (fun _ => 0) j) j) j) 3 (0 : Int32) 0 h_312 Z_312 W_312 (by decide)) e_313 rfl (lenOf pd__I_J rfl) (by decide) 0 (Nat.le_of_eq rfl) (by decide) (by decide) (by decide) N_313 ?_
      rintro _ T_314 h_314 locs_314 X_314 q_314 ⟨rfl, r_314⟩ N_314
      have e_314 := q_314.trans r_314
      show OGo p e below s n0 _ _ _ (T_314.setTop (mkF m 135 #[.val (.long p0), .second, .val (.long p1), .second, .val (.long p2), .second, .val (.int p3), .val (.int (3 : Int32)), .val (.int (1 : Int32)), .val (.ref b), .val (.int (1 : Int32))] [(.long p0)]))
      refine o_lloadN X_314 K at_135 136 rfl rfl ?_
      refine o_lcmp X_314 K at_136 137 rfl ?_
      refine o_if_ne_f X_314 K at_137 140 rfl ((lw_eq _ _).mpr rfl) ?_
      refine o_iconst X_314 K (1 : Int32) at_140 141 rfl rfl ?_
      refine o_goto X_314 K at_141 145 (by decide) (by decide) ?_
      refine o_istore X_314 K at_145 147 rfl #[.val (.long p0), .second, .val (.long p1), .second, .val (.long p2), .second, .val (.int p3), .val (.int (3 : Int32)), .val (.int (1 : Int32)), .val (.ref b), .val (.int (1 : Int32))] rfl rfl ?_
      refine o_iload X_314 K at_147 149 rfl rfl ?_
      refine o_if_eq_f X_314 K at_149 152 rfl (by decide) ?_
      refine o_iload X_314 K at_152 154 rfl rfl ?_
      refine o_iconst X_314 K (1 : Int32) at_154 155 rfl rfl ?_
      refine o_icmp_le_f X_314 K at_155 158 rfl (by decide) ?_
      refine o_aload X_314 K at_158 160 rfl rfl rfl ?_
      refine o_iconst X_314 K (1 : Int32) at_160 161 rfl rfl ?_
      refine o_invokevirtual X_314 K at_161 164 rfl (w_50 hw) (w_51 hw) (w_53 hw) (w_52 hw) (w_2 hw) (w_54 hw) (by decide) W_312.exa [(.int (1 : Int32))] [] rfl  (c_get l Z a0 hw n0 b 3 (fun j => if j = 2 then p2 else (fun j => if j = 1 then p1 else (fun j => if j = 0 then p0 else (fun _ => 0) j) j) j) 3 (1 : Int32) 1 h_312 Z_312 W_312 (by decide)) e_314 rfl (lenOf pd__I_J rfl) (by decide) 0 (Nat.le_of_eq rfl) (by decide) (by decide) (by decide) N_314 ?_
      rintro _ T_315 h_315 locs_315 X_315 q_315 ⟨rfl, r_315⟩ N_315
      have e_315 := q_315.trans r_315
      show OGo p e below s n0 _ _ _ (T_315.setTop (mkF m 164 #[.val (.long p0), .second, .val (.long p1), .second, .val (.long p2), .second, .val (.int p3), .val (.int (3 : Int32)), .val (.int (1 : Int32)), .val (.ref b), .val (.int (1 : Int32))] [(.long p1)]))
      refine o_lloadN X_315 K at_164 165 rfl rfl ?_
      refine o_lcmp X_315 K at_165 166 rfl ?_
      refine o_if_ne_f X_315 K at_166 169 rfl ((lw_eq _ _).mpr rfl) ?_
      refine o_iconst X_315 K (1 : Int32) at_169 170 rfl rfl ?_
      refine o_goto X_315 K at_170 174 (by decide) (by decide) ?_
      refine o_istore X_315 K at_174 176 rfl #[.val (.long p0), .second, .val (.long p1), .second, .val (.long p2), .second, .val (.int p3), .val (.int (3 : Int32)), .val (.int (1 : Int32)), .val (.ref b), .val (.int (1 : Int32))] rfl rfl ?_
      refine o_iload X_315 K at_176 178 rfl rfl ?_
      refine o_if_eq_f X_315 K at_178 181 rfl (by decide) ?_
      refine o_iload X_315 K at_181 183 rfl rfl ?_
      refine o_iconst X_315 K (2 : Int32) at_183 184 rfl rfl ?_
      refine o_icmp_le_f X_315 K at_184 187 rfl (by decide) ?_
      refine o_aload X_315 K at_187 189 rfl rfl rfl ?_
      refine o_iconst X_315 K (2 : Int32) at_189 190 rfl rfl ?_
      refine o_invokevirtual X_315 K at_190 193 rfl (w_50 hw) (w_51 hw) (w_53 hw) (w_52 hw) (w_2 hw) (w_54 hw) (by decide) W_312.exa [(.int (2 : Int32))] [] rfl  (c_get l Z a0 hw n0 b 3 (fun j => if j = 2 then p2 else (fun j => if j = 1 then p1 else (fun j => if j = 0 then p0 else (fun _ => 0) j) j) j) 3 (2 : Int32) 2 h_312 Z_312 W_312 (by decide)) e_315 rfl (lenOf pd__I_J rfl) (by decide) 0 (Nat.le_of_eq rfl) (by decide) (by decide) (by decide) N_315 ?_
      rintro _ T_316 h_316 locs_316 X_316 q_316 ⟨rfl, r_316⟩ N_316
      have e_316 := q_316.trans r_316
      show OGo p e below s n0 _ _ _ (T_316.setTop (mkF m 193 #[.val (.long p0), .second, .val (.long p1), .second, .val (.long p2), .second, .val (.int p3), .val (.int (3 : Int32)), .val (.int (1 : Int32)), .val (.ref b), .val (.int (1 : Int32))] [(.long p2)]))
      refine o_lload X_316 K at_193 195 rfl rfl ?_
      refine o_lcmp X_316 K at_195 196 rfl ?_
      refine o_if_ne_f X_316 K at_196 199 rfl ((lw_eq _ _).mpr rfl) ?_
      refine o_iconst X_316 K (1 : Int32) at_199 200 rfl rfl ?_
      refine o_goto X_316 K at_200 204 (by decide) (by decide) ?_
      refine o_istore X_316 K at_204 206 rfl #[.val (.long p0), .second, .val (.long p1), .second, .val (.long p2), .second, .val (.int p3), .val (.int (3 : Int32)), .val (.int (1 : Int32)), .val (.ref b), .val (.int (1 : Int32))] rfl rfl ?_
      refine o_iload X_316 K at_206 208 rfl rfl ?_
      refine o_ireturnN X_316 K (by decide) at_208 (by decide) (by decide) N_316 ?_
      exact rfl
    · skip
      refine o_iload X_252 K at_23 25 rfl rfl ?_
      refine o_if_ne_t X_252 K at_25 33 (by decide) (by decide) (by decide) ?_
      refine o_iload X_252 K at_33 35 rfl rfl ?_
      refine o_if_le_f X_252 K at_35 38 rfl (by decide) ?_
      refine o_aload X_252 K at_38 40 rfl rfl rfl ?_
      refine o_lloadN X_252 K at_40 41 rfl rfl ?_
      refine o_invokevirtual X_252 K at_41 44 rfl (w_33 hw) (w_34 hw) (w_36 hw) (w_35 hw) (w_2 hw) (w_37 hw) (by decide) W_252.exa [(.long p0)] [] rfl  (c_add l Z a0 hw n0 b 0 (fun _ => 0) 64 p0 h_252 Z_252 W_252 g_b (by decide)) e_252 rfl (lenOf pd__J_V rfl) (by decide) 0 (Nat.le_of_eq rfl) (by decide) (by decide) (by decide) N_252 ?_
      rintro _ T_317 h_317 locs_317 X_317 e_317 ⟨rfl, W_317⟩ N_317
      have Z_317 := W_317.1
      replace W_317 : own_W Z h_317 n0 b 1 (fun j => if j = 0 then p0 else (fun _ => 0) j) 64 := W_317
      show OGo p e below s n0 _ _ _ (T_317.setTop (mkF m 44 #[.val (.long p0), .second, .val (.long p1), .second, .val (.long p2), .second, .val (.int p3), .val (.int (3 : Int32)), .val (.int (2 : Int32)), .val (.ref b), .unset] []))
      refine o_iload X_317 K at_44 46 rfl rfl ?_
      refine o_iconst X_317 K (1 : Int32) at_46 47 rfl rfl ?_
      refine o_icmp_ne_t X_317 K at_47 55 (by decide) (by decide) (by decide) ?_
      refine o_iload X_317 K at_55 57 rfl rfl ?_
      refine o_iconst X_317 K (1 : Int32) at_57 58 rfl rfl ?_
      refine o_icmp_le_f X_317 K at_58 61 rfl (by decide) ?_
      refine o_aload X_317 K at_61 63 rfl rfl rfl ?_
      refine o_lloadN X_317 K at_63 64 rfl rfl ?_
      refine o_invokevirtual X_317 K at_64 67 rfl (w_33 hw) (w_34 hw) (w_36 hw) (w_35 hw) (w_2 hw) (w_37 hw) (by decide) W_317.exa [(.long p1)] [] rfl  (c_add l Z a0 hw n0 b 1 (fun j => if j = 0 then p0 else (fun _ => 0) j) 64 p1 h_317 Z_317 W_317 g_b (by decide)) e_317 rfl (lenOf pd__J_V rfl) (by decide) 0 (Nat.le_of_eq rfl) (by decide) (by decide) (by decide) N_317 ?_
      rintro _ T_318 h_318 locs_318 X_318 e_318 ⟨rfl, W_318⟩ N_318
      have Z_318 := W_318.1
      replace W_318 : own_W Z h_318 n0 b 2 (fun j => if j = 1 then p1 else (fun j => if j = 0 then p0 else (fun _ => 0) j) j) 64 := W_318
      show OGo p e below s n0 _ _ _ (T_318.setTop (mkF m 67 #[.val (.long p0), .second, .val (.long p1), .second, .val (.long p2), .second, .val (.int p3), .val (.int (3 : Int32)), .val (.int (2 : Int32)), .val (.ref b), .unset] []))
      refine o_iload X_318 K at_67 69 rfl rfl ?_
      refine o_iconst X_318 K (2 : Int32) at_69 70 rfl rfl ?_
      refine o_icmp_ne_f X_318 K at_70 73 rfl (by decide) ?_
      refine o_aload X_318 K at_73 75 rfl rfl rfl ?_
      refine o_invokevirtual X_318 K at_75 78 rfl (w_12 hw) (w_13 hw) (w_15 hw) (w_14 hw) (w_2 hw) (w_16 hw) (by decide) W_318.exa [] [] rfl  (c_trim l Z a0 hw n0 b 2 (fun j => if j = 1 then p1 else (fun j => if j = 0 then p0 else (fun _ => 0) j) j) 64 h_318 Z_318 W_318 g_b (by decide)) e_318 rfl (lenOf pd___V rfl) (by decide) 0 (Nat.le_of_eq rfl) (by decide) (by decide) (by decide) N_318 ?_
      rintro _ T_319 h_319 locs_319 X_319 e_319 ⟨rfl, W_319⟩ N_319
      have Z_319 := W_319.1
      show OGo p e below s n0 _ _ _ (T_319.setTop (mkF m 78 #[.val (.long p0), .second, .val (.long p1), .second, .val (.long p2), .second, .val (.int p3), .val (.int (3 : Int32)), .val (.int (2 : Int32)), .val (.ref b), .unset] []))
      refine o_iload X_319 K at_78 80 rfl rfl ?_
      refine o_iconst X_319 K (2 : Int32) at_80 81 rfl rfl ?_
      refine o_icmp_le_f X_319 K at_81 84 rfl (by decide) ?_
      refine o_aload X_319 K at_84 86 rfl rfl rfl ?_
      refine o_lload X_319 K at_86 88 rfl rfl ?_
      refine o_invokevirtual X_319 K at_88 91 rfl (w_33 hw) (w_34 hw) (w_36 hw) (w_35 hw) (w_2 hw) (w_37 hw) (by decide) W_319.exa [(.long p2)] [] rfl  (c_add l Z a0 hw n0 b 2 (fun j => if j = 1 then p1 else (fun j => if j = 0 then p0 else (fun _ => 0) j) j) 2 p2 h_319 Z_319 W_319 g_b (by decide)) e_319 rfl (lenOf pd__J_V rfl) (by decide) 0 (Nat.le_of_eq rfl) (by decide) (by decide) (by decide) N_319 ?_
      rintro _ T_320 h_320 locs_320 X_320 e_320 ⟨rfl, W_320⟩ N_320
      have Z_320 := W_320.1
      replace W_320 : own_W Z h_320 n0 b 3 (fun j => if j = 2 then p2 else (fun j => if j = 1 then p1 else (fun j => if j = 0 then p0 else (fun _ => 0) j) j) j) 3 := W_320
      show OGo p e below s n0 _ _ _ (T_320.setTop (mkF m 91 #[.val (.long p0), .second, .val (.long p1), .second, .val (.long p2), .second, .val (.int p3), .val (.int (3 : Int32)), .val (.int (2 : Int32)), .val (.ref b), .unset] []))
      refine o_iload X_320 K at_91 93 rfl rfl ?_
      refine o_iconst X_320 K (3 : Int32) at_93 94 rfl rfl ?_
      refine o_icmp_ne_t X_320 K at_94 102 (by decide) (by decide) (by decide) ?_
      refine o_aload X_320 K at_102 104 rfl rfl rfl ?_
      obtain ⟨sz, hsz, F_sz⟩ : ∃ sz : Int32, sz.toInt = (3 : Nat) ∧ Fld Z h_320 b "com/example/planwright/planwright/WholeNumbers" "size" "I" (.int sz) := by rcases W_320.2 with ⟨_, _, sz, -, -, h1, -, h2, -⟩ | ⟨_, _, sz, -, -, h1, -, h2, -⟩ <;> exact ⟨sz, h1, h2⟩
      refine o_invokevirtual X_320 K at_104 107 rfl (w_45 hw) (w_46 hw) (w_48 hw) (w_47 hw) (w_2 hw) (w_49 hw) (by decide) W_320.exa [] [] rfl  (c_size l Z a0 hw n0 b sz h_320 Z_320 F_sz) e_320 rfl (lenOf pd___I rfl) (by decide) 0 (Nat.le_of_eq rfl) (by decide) (by decide) (by decide) N_320 ?_
      rintro _ T_321 h_321 locs_321 X_321 q_321 ⟨rfl, r_321⟩ N_321
      have e_321 := q_321.trans r_321
      show OGo p e below s n0 _ _ _ (T_321.setTop (mkF m 107 #[.val (.long p0), .second, .val (.long p1), .second, .val (.long p2), .second, .val (.int p3), .val (.int (3 : Int32)), .val (.int (2 : Int32)), .val (.ref b), .unset] [(.int sz)]))
      refine o_iload X_321 K at_107 109 rfl rfl ?_
      refine o_icmp_ne_f X_321 K at_109 112 rfl (Int32.toInt_inj.mp (by rw [hsz]; rfl)) ?_
      refine o_iconst X_321 K (1 : Int32) at_112 113 rfl rfl ?_
      refine o_goto X_321 K at_113 117 (by decide) (by decide) ?_
      refine o_istore X_321 K at_117 119 rfl #[.val (.long p0), .second, .val (.long p1), .second, .val (.long p2), .second, .val (.int p3), .val (.int (3 : Int32)), .val (.int (2 : Int32)), .val (.ref b), .val (.int (1 : Int32))] rfl rfl ?_
      refine o_iload X_321 K at_119 121 rfl rfl ?_
      refine o_if_eq_f X_321 K at_121 124 rfl (by decide) ?_
      refine o_iload X_321 K at_124 126 rfl rfl ?_
      refine o_if_le_f X_321 K at_126 129 rfl (by decide) ?_
      refine o_aload X_321 K at_129 131 rfl rfl rfl ?_
      refine o_iconst X_321 K (0 : Int32) at_131 132 rfl rfl ?_
      refine o_invokevirtual X_321 K at_132 135 rfl (w_50 hw) (w_51 hw) (w_53 hw) (w_52 hw) (w_2 hw) (w_54 hw) (by decide) W_320.exa [(.int (0 : Int32))] [] rfl  (c_get l Z a0 hw n0 b 3 (fun j => if j = 2 then p2 else (fun j => if j = 1 then p1 else (fun j => if j = 0 then p0 else (fun _ => 0) j) j) j) 3 (0 : Int32) 0 h_320 Z_320 W_320 (by decide)) e_321 rfl (lenOf pd__I_J rfl) (by decide) 0 (Nat.le_of_eq rfl) (by decide) (by decide) (by decide) N_321 ?_
      rintro _ T_322 h_322 locs_322 X_322 q_322 ⟨rfl, r_322⟩ N_322
      have e_322 := q_322.trans r_322
      show OGo p e below s n0 _ _ _ (T_322.setTop (mkF m 135 #[.val (.long p0), .second, .val (.long p1), .second, .val (.long p2), .second, .val (.int p3), .val (.int (3 : Int32)), .val (.int (2 : Int32)), .val (.ref b), .val (.int (1 : Int32))] [(.long p0)]))
      refine o_lloadN X_322 K at_135 136 rfl rfl ?_
      refine o_lcmp X_322 K at_136 137 rfl ?_
      refine o_if_ne_f X_322 K at_137 140 rfl ((lw_eq _ _).mpr rfl) ?_
      refine o_iconst X_322 K (1 : Int32) at_140 141 rfl rfl ?_
      refine o_goto X_322 K at_141 145 (by decide) (by decide) ?_
      refine o_istore X_322 K at_145 147 rfl #[.val (.long p0), .second, .val (.long p1), .second, .val (.long p2), .second, .val (.int p3), .val (.int (3 : Int32)), .val (.int (2 : Int32)), .val (.ref b), .val (.int (1 : Int32))] rfl rfl ?_
      refine o_iload X_322 K at_147 149 rfl rfl ?_
      refine o_if_eq_f X_322 K at_149 152 rfl (by decide) ?_
      refine o_iload X_322 K at_152 154 rfl rfl ?_
      refine o_iconst X_322 K (1 : Int32) at_154 155 rfl rfl ?_
      refine o_icmp_le_f X_322 K at_155 158 rfl (by decide) ?_
      refine o_aload X_322 K at_158 160 rfl rfl rfl ?_
      refine o_iconst X_322 K (1 : Int32) at_160 161 rfl rfl ?_
      refine o_invokevirtual X_322 K at_161 164 rfl (w_50 hw) (w_51 hw) (w_53 hw) (w_52 hw) (w_2 hw) (w_54 hw) (by decide) W_320.exa [(.int (1 : Int32))] [] rfl  (c_get l Z a0 hw n0 b 3 (fun j => if j = 2 then p2 else (fun j => if j = 1 then p1 else (fun j => if j = 0 then p0 else (fun _ => 0) j) j) j) 3 (1 : Int32) 1 h_320 Z_320 W_320 (by decide)) e_322 rfl (lenOf pd__I_J rfl) (by decide) 0 (Nat.le_of_eq rfl) (by decide) (by decide) (by decide) N_322 ?_
      rintro _ T_323 h_323 locs_323 X_323 q_323 ⟨rfl, r_323⟩ N_323
      have e_323 := q_323.trans r_323
      show OGo p e below s n0 _ _ _ (T_323.setTop (mkF m 164 #[.val (.long p0), .second, .val (.long p1), .second, .val (.long p2), .second, .val (.int p3), .val (.int (3 : Int32)), .val (.int (2 : Int32)), .val (.ref b), .val (.int (1 : Int32))] [(.long p1)]))
      refine o_lloadN X_323 K at_164 165 rfl rfl ?_
      refine o_lcmp X_323 K at_165 166 rfl ?_
      refine o_if_ne_f X_323 K at_166 169 rfl ((lw_eq _ _).mpr rfl) ?_
      refine o_iconst X_323 K (1 : Int32) at_169 170 rfl rfl ?_
      refine o_goto X_323 K at_170 174 (by decide) (by decide) ?_
      refine o_istore X_323 K at_174 176 rfl #[.val (.long p0), .second, .val (.long p1), .second, .val (.long p2), .second, .val (.int p3), .val (.int (3 : Int32)), .val (.int (2 : Int32)), .val (.ref b), .val (.int (1 : Int32))] rfl rfl ?_
      refine o_iload X_323 K at_176 178 rfl rfl ?_
      refine o_if_eq_f X_323 K at_178 181 rfl (by decide) ?_
      refine o_iload X_323 K at_181 183 rfl rfl ?_
      refine o_iconst X_323 K (2 : Int32) at_183 184 rfl rfl ?_
      refine o_icmp_le_f X_323 K at_184 187 rfl (by decide) ?_
      refine o_aload X_323 K at_187 189 rfl rfl rfl ?_
      refine o_iconst X_323 K (2 : Int32) at_189 190 rfl rfl ?_
      refine o_invokevirtual X_323 K at_190 193 rfl (w_50 hw) (w_51 hw) (w_53 hw) (w_52 hw) (w_2 hw) (w_54 hw) (by decide) W_320.exa [(.int (2 : Int32))] [] rfl  (c_get l Z a0 hw n0 b 3 (fun j => if j = 2 then p2 else (fun j => if j = 1 then p1 else (fun j => if j = 0 then p0 else (fun _ => 0) j) j) j) 3 (2 : Int32) 2 h_320 Z_320 W_320 (by decide)) e_323 rfl (lenOf pd__I_J rfl) (by decide) 0 (Nat.le_of_eq rfl) (by decide) (by decide) (by decide) N_323 ?_
      rintro _ T_324 h_324 locs_324 X_324 q_324 ⟨rfl, r_324⟩ N_324
      have e_324 := q_324.trans r_324
      show OGo p e below s n0 _ _ _ (T_324.setTop (mkF m 193 #[.val (.long p0), .second, .val (.long p1), .second, .val (.long p2), .second, .val (.int p3), .val (.int (3 : Int32)), .val (.int (2 : Int32)), .val (.ref b), .val (.int (1 : Int32))] [(.long p2)]))
      refine o_lload X_324 K at_193 195 rfl rfl ?_
      refine o_lcmp X_324 K at_195 196 rfl ?_
      refine o_if_ne_f X_324 K at_196 199 rfl ((lw_eq _ _).mpr rfl) ?_
      refine o_iconst X_324 K (1 : Int32) at_199 200 rfl rfl ?_
      refine o_goto X_324 K at_200 204 (by decide) (by decide) ?_
      refine o_istore X_324 K at_204 206 rfl #[.val (.long p0), .second, .val (.long p1), .second, .val (.long p2), .second, .val (.int p3), .val (.int (3 : Int32)), .val (.int (2 : Int32)), .val (.ref b), .val (.int (1 : Int32))] rfl rfl ?_
      refine o_iload X_324 K at_206 208 rfl rfl ?_
      refine o_ireturnN X_324 K (by decide) at_208 (by decide) (by decide) N_324 ?_
      exact rfl
    · skip
      refine o_iload X_252 K at_23 25 rfl rfl ?_
      refine o_if_ne_t X_252 K at_25 33 (by decide) (by decide) (by decide) ?_
      refine o_iload X_252 K at_33 35 rfl rfl ?_
      refine o_if_le_f X_252 K at_35 38 rfl (by decide) ?_
      refine o_aload X_252 K at_38 40 rfl rfl rfl ?_
      refine o_lloadN X_252 K at_40 41 rfl rfl ?_
      refine o_invokevirtual X_252 K at_41 44 rfl (w_33 hw) (w_34 hw) (w_36 hw) (w_35 hw) (w_2 hw) (w_37 hw) (by decide) W_252.exa [(.long p0)] [] rfl  (c_add l Z a0 hw n0 b 0 (fun _ => 0) 64 p0 h_252 Z_252 W_252 g_b (by decide)) e_252 rfl (lenOf pd__J_V rfl) (by decide) 0 (Nat.le_of_eq rfl) (by decide) (by decide) (by decide) N_252 ?_
      rintro _ T_325 h_325 locs_325 X_325 e_325 ⟨rfl, W_325⟩ N_325
      have Z_325 := W_325.1
      replace W_325 : own_W Z h_325 n0 b 1 (fun j => if j = 0 then p0 else (fun _ => 0) j) 64 := W_325
      show OGo p e below s n0 _ _ _ (T_325.setTop (mkF m 44 #[.val (.long p0), .second, .val (.long p1), .second, .val (.long p2), .second, .val (.int p3), .val (.int (3 : Int32)), .val (.int (3 : Int32)), .val (.ref b), .unset] []))
      refine o_iload X_325 K at_44 46 rfl rfl ?_
      refine o_iconst X_325 K (1 : Int32) at_46 47 rfl rfl ?_
      refine o_icmp_ne_t X_325 K at_47 55 (by decide) (by decide) (by decide) ?_
      refine o_iload X_325 K at_55 57 rfl rfl ?_
      refine o_iconst X_325 K (1 : Int32) at_57 58 rfl rfl ?_
      refine o_icmp_le_f X_325 K at_58 61 rfl (by decide) ?_
      refine o_aload X_325 K at_61 63 rfl rfl rfl ?_
      refine o_lloadN X_325 K at_63 64 rfl rfl ?_
      refine o_invokevirtual X_325 K at_64 67 rfl (w_33 hw) (w_34 hw) (w_36 hw) (w_35 hw) (w_2 hw) (w_37 hw) (by decide) W_325.exa [(.long p1)] [] rfl  (c_add l Z a0 hw n0 b 1 (fun j => if j = 0 then p0 else (fun _ => 0) j) 64 p1 h_325 Z_325 W_325 g_b (by decide)) e_325 rfl (lenOf pd__J_V rfl) (by decide) 0 (Nat.le_of_eq rfl) (by decide) (by decide) (by decide) N_325 ?_
      rintro _ T_326 h_326 locs_326 X_326 e_326 ⟨rfl, W_326⟩ N_326
      have Z_326 := W_326.1
      replace W_326 : own_W Z h_326 n0 b 2 (fun j => if j = 1 then p1 else (fun j => if j = 0 then p0 else (fun _ => 0) j) j) 64 := W_326
      show OGo p e below s n0 _ _ _ (T_326.setTop (mkF m 67 #[.val (.long p0), .second, .val (.long p1), .second, .val (.long p2), .second, .val (.int p3), .val (.int (3 : Int32)), .val (.int (3 : Int32)), .val (.ref b), .unset] []))
      refine o_iload X_326 K at_67 69 rfl rfl ?_
      refine o_iconst X_326 K (2 : Int32) at_69 70 rfl rfl ?_
      refine o_icmp_ne_t X_326 K at_70 78 (by decide) (by decide) (by decide) ?_
      refine o_iload X_326 K at_78 80 rfl rfl ?_
      refine o_iconst X_326 K (2 : Int32) at_80 81 rfl rfl ?_
      refine o_icmp_le_f X_326 K at_81 84 rfl (by decide) ?_
      refine o_aload X_326 K at_84 86 rfl rfl rfl ?_
      refine o_lload X_326 K at_86 88 rfl rfl ?_
      refine o_invokevirtual X_326 K at_88 91 rfl (w_33 hw) (w_34 hw) (w_36 hw) (w_35 hw) (w_2 hw) (w_37 hw) (by decide) W_326.exa [(.long p2)] [] rfl  (c_add l Z a0 hw n0 b 2 (fun j => if j = 1 then p1 else (fun j => if j = 0 then p0 else (fun _ => 0) j) j) 64 p2 h_326 Z_326 W_326 g_b (by decide)) e_326 rfl (lenOf pd__J_V rfl) (by decide) 0 (Nat.le_of_eq rfl) (by decide) (by decide) (by decide) N_326 ?_
      rintro _ T_327 h_327 locs_327 X_327 e_327 ⟨rfl, W_327⟩ N_327
      have Z_327 := W_327.1
      replace W_327 : own_W Z h_327 n0 b 3 (fun j => if j = 2 then p2 else (fun j => if j = 1 then p1 else (fun j => if j = 0 then p0 else (fun _ => 0) j) j) j) 64 := W_327
      show OGo p e below s n0 _ _ _ (T_327.setTop (mkF m 91 #[.val (.long p0), .second, .val (.long p1), .second, .val (.long p2), .second, .val (.int p3), .val (.int (3 : Int32)), .val (.int (3 : Int32)), .val (.ref b), .unset] []))
      refine o_iload X_327 K at_91 93 rfl rfl ?_
      refine o_iconst X_327 K (3 : Int32) at_93 94 rfl rfl ?_
      refine o_icmp_ne_f X_327 K at_94 97 rfl (by decide) ?_
      refine o_aload X_327 K at_97 99 rfl rfl rfl ?_
      refine o_invokevirtual X_327 K at_99 102 rfl (w_12 hw) (w_13 hw) (w_15 hw) (w_14 hw) (w_2 hw) (w_16 hw) (by decide) W_327.exa [] [] rfl  (c_trim l Z a0 hw n0 b 3 (fun j => if j = 2 then p2 else (fun j => if j = 1 then p1 else (fun j => if j = 0 then p0 else (fun _ => 0) j) j) j) 64 h_327 Z_327 W_327 g_b (by decide)) e_327 rfl (lenOf pd___V rfl) (by decide) 0 (Nat.le_of_eq rfl) (by decide) (by decide) (by decide) N_327 ?_
      rintro _ T_328 h_328 locs_328 X_328 e_328 ⟨rfl, W_328⟩ N_328
      have Z_328 := W_328.1
      show OGo p e below s n0 _ _ _ (T_328.setTop (mkF m 102 #[.val (.long p0), .second, .val (.long p1), .second, .val (.long p2), .second, .val (.int p3), .val (.int (3 : Int32)), .val (.int (3 : Int32)), .val (.ref b), .unset] []))
      refine o_aload X_328 K at_102 104 rfl rfl rfl ?_
      obtain ⟨sz, hsz, F_sz⟩ : ∃ sz : Int32, sz.toInt = (3 : Nat) ∧ Fld Z h_328 b "com/example/planwright/planwright/WholeNumbers" "size" "I" (.int sz) := by rcases W_328.2 with ⟨_, _, sz, -, -, h1, -, h2, -⟩ | ⟨_, _, sz, -, -, h1, -, h2, -⟩ <;> exact ⟨sz, h1, h2⟩
      refine o_invokevirtual X_328 K at_104 107 rfl (w_45 hw) (w_46 hw) (w_48 hw) (w_47 hw) (w_2 hw) (w_49 hw) (by decide) W_328.exa [] [] rfl  (c_size l Z a0 hw n0 b sz h_328 Z_328 F_sz) e_328 rfl (lenOf pd___I rfl) (by decide) 0 (Nat.le_of_eq rfl) (by decide) (by decide) (by decide) N_328 ?_
      rintro _ T_329 h_329 locs_329 X_329 q_329 ⟨rfl, r_329⟩ N_329
      have e_329 := q_329.trans r_329
      show OGo p e below s n0 _ _ _ (T_329.setTop (mkF m 107 #[.val (.long p0), .second, .val (.long p1), .second, .val (.long p2), .second, .val (.int p3), .val (.int (3 : Int32)), .val (.int (3 : Int32)), .val (.ref b), .unset] [(.int sz)]))
      refine o_iload X_329 K at_107 109 rfl rfl ?_
      refine o_icmp_ne_f X_329 K at_109 112 rfl (Int32.toInt_inj.mp (by rw [hsz]; rfl)) ?_
      refine o_iconst X_329 K (1 : Int32) at_112 113 rfl rfl ?_
      refine o_goto X_329 K at_113 117 (by decide) (by decide) ?_
      refine o_istore X_329 K at_117 119 rfl #[.val (.long p0), .second, .val (.long p1), .second, .val (.long p2), .second, .val (.int p3), .val (.int (3 : Int32)), .val (.int (3 : Int32)), .val (.ref b), .val (.int (1 : Int32))] rfl rfl ?_
      refine o_iload X_329 K at_119 121 rfl rfl ?_
      refine o_if_eq_f X_329 K at_121 124 rfl (by decide) ?_
      refine o_iload X_329 K at_124 126 rfl rfl ?_
      refine o_if_le_f X_329 K at_126 129 rfl (by decide) ?_
      refine o_aload X_329 K at_129 131 rfl rfl rfl ?_
      refine o_iconst X_329 K (0 : Int32) at_131 132 rfl rfl ?_
      refine o_invokevirtual X_329 K at_132 135 rfl (w_50 hw) (w_51 hw) (w_53 hw) (w_52 hw) (w_2 hw) (w_54 hw) (by decide) W_328.exa [(.int (0 : Int32))] [] rfl  (c_get l Z a0 hw n0 b 3 (fun j => if j = 2 then p2 else (fun j => if j = 1 then p1 else (fun j => if j = 0 then p0 else (fun _ => 0) j) j) j) 3 (0 : Int32) 0 h_328 Z_328 W_328 (by decide)) e_329 rfl (lenOf pd__I_J rfl) (by decide) 0 (Nat.le_of_eq rfl) (by decide) (by decide) (by decide) N_329 ?_
      rintro _ T_330 h_330 locs_330 X_330 q_330 ⟨rfl, r_330⟩ N_330
      have e_330 := q_330.trans r_330
      show OGo p e below s n0 _ _ _ (T_330.setTop (mkF m 135 #[.val (.long p0), .second, .val (.long p1), .second, .val (.long p2), .second, .val (.int p3), .val (.int (3 : Int32)), .val (.int (3 : Int32)), .val (.ref b), .val (.int (1 : Int32))] [(.long p0)]))
      refine o_lloadN X_330 K at_135 136 rfl rfl ?_
      refine o_lcmp X_330 K at_136 137 rfl ?_
      refine o_if_ne_f X_330 K at_137 140 rfl ((lw_eq _ _).mpr rfl) ?_
      refine o_iconst X_330 K (1 : Int32) at_140 141 rfl rfl ?_
      refine o_goto X_330 K at_141 145 (by decide) (by decide) ?_
      refine o_istore X_330 K at_145 147 rfl #[.val (.long p0), .second, .val (.long p1), .second, .val (.long p2), .second, .val (.int p3), .val (.int (3 : Int32)), .val (.int (3 : Int32)), .val (.ref b), .val (.int (1 : Int32))] rfl rfl ?_
      refine o_iload X_330 K at_147 149 rfl rfl ?_
      refine o_if_eq_f X_330 K at_149 152 rfl (by decide) ?_
      refine o_iload X_330 K at_152 154 rfl rfl ?_
      refine o_iconst X_330 K (1 : Int32) at_154 155 rfl rfl ?_
      refine o_icmp_le_f X_330 K at_155 158 rfl (by decide) ?_
      refine o_aload X_330 K at_158 160 rfl rfl rfl ?_
      refine o_iconst X_330 K (1 : Int32) at_160 161 rfl rfl ?_
      refine o_invokevirtual X_330 K at_161 164 rfl (w_50 hw) (w_51 hw) (w_53 hw) (w_52 hw) (w_2 hw) (w_54 hw) (by decide) W_328.exa [(.int (1 : Int32))] [] rfl  (c_get l Z a0 hw n0 b 3 (fun j => if j = 2 then p2 else (fun j => if j = 1 then p1 else (fun j => if j = 0 then p0 else (fun _ => 0) j) j) j) 3 (1 : Int32) 1 h_328 Z_328 W_328 (by decide)) e_330 rfl (lenOf pd__I_J rfl) (by decide) 0 (Nat.le_of_eq rfl) (by decide) (by decide) (by decide) N_330 ?_
      rintro _ T_331 h_331 locs_331 X_331 q_331 ⟨rfl, r_331⟩ N_331
      have e_331 := q_331.trans r_331
      show OGo p e below s n0 _ _ _ (T_331.setTop (mkF m 164 #[.val (.long p0), .second, .val (.long p1), .second, .val (.long p2), .second, .val (.int p3), .val (.int (3 : Int32)), .val (.int (3 : Int32)), .val (.ref b), .val (.int (1 : Int32))] [(.long p1)]))
      refine o_lloadN X_331 K at_164 165 rfl rfl ?_
      refine o_lcmp X_331 K at_165 166 rfl ?_
      refine o_if_ne_f X_331 K at_166 169 rfl ((lw_eq _ _).mpr rfl) ?_
      refine o_iconst X_331 K (1 : Int32) at_169 170 rfl rfl ?_
      refine o_goto X_331 K at_170 174 (by decide) (by decide) ?_
      refine o_istore X_331 K at_174 176 rfl #[.val (.long p0), .second, .val (.long p1), .second, .val (.long p2), .second, .val (.int p3), .val (.int (3 : Int32)), .val (.int (3 : Int32)), .val (.ref b), .val (.int (1 : Int32))] rfl rfl ?_
      refine o_iload X_331 K at_176 178 rfl rfl ?_
      refine o_if_eq_f X_331 K at_178 181 rfl (by decide) ?_
      refine o_iload X_331 K at_181 183 rfl rfl ?_
      refine o_iconst X_331 K (2 : Int32) at_183 184 rfl rfl ?_
      refine o_icmp_le_f X_331 K at_184 187 rfl (by decide) ?_
      refine o_aload X_331 K at_187 189 rfl rfl rfl ?_
      refine o_iconst X_331 K (2 : Int32) at_189 190 rfl rfl ?_
      refine o_invokevirtual X_331 K at_190 193 rfl (w_50 hw) (w_51 hw) (w_53 hw) (w_52 hw) (w_2 hw) (w_54 hw) (by decide) W_328.exa [(.int (2 : Int32))] [] rfl  (c_get l Z a0 hw n0 b 3 (fun j => if j = 2 then p2 else (fun j => if j = 1 then p1 else (fun j => if j = 0 then p0 else (fun _ => 0) j) j) j) 3 (2 : Int32) 2 h_328 Z_328 W_328 (by decide)) e_331 rfl (lenOf pd__I_J rfl) (by decide) 0 (Nat.le_of_eq rfl) (by decide) (by decide) (by decide) N_331 ?_
      rintro _ T_332 h_332 locs_332 X_332 q_332 ⟨rfl, r_332⟩ N_332
      have e_332 := q_332.trans r_332
      show OGo p e below s n0 _ _ _ (T_332.setTop (mkF m 193 #[.val (.long p0), .second, .val (.long p1), .second, .val (.long p2), .second, .val (.int p3), .val (.int (3 : Int32)), .val (.int (3 : Int32)), .val (.ref b), .val (.int (1 : Int32))] [(.long p2)]))
      refine o_lload X_332 K at_193 195 rfl rfl ?_
      refine o_lcmp X_332 K at_195 196 rfl ?_
      refine o_if_ne_f X_332 K at_196 199 rfl ((lw_eq _ _).mpr rfl) ?_
      refine o_iconst X_332 K (1 : Int32) at_199 200 rfl rfl ?_
      refine o_goto X_332 K at_200 204 (by decide) (by decide) ?_
      refine o_istore X_332 K at_204 206 rfl #[.val (.long p0), .second, .val (.long p1), .second, .val (.long p2), .second, .val (.int p3), .val (.int (3 : Int32)), .val (.int (3 : Int32)), .val (.ref b), .val (.int (1 : Int32))] rfl rfl ?_
      refine o_iload X_332 K at_206 208 rfl rfl ?_
      refine o_ireturnN X_332 K (by decide) at_208 (by decide) (by decide) N_332 ?_
      exact rfl
set_option maxHeartbeats 4000000 in
theorem comes_1 {Post : Tables → Env → Array Value → State → Outcome → State → Prop} (hpost : ∀ tb e args s v u, (limb_1_1.after args s (.returned v) u = true ∧ limb_1_2.after args s (.returned v) u = true ∧ True) → FrameEnd s (.returned v) u (Jvm.fieldLocs frame_1_writes args s ++ Jvm.arrayLocs frame_1_arrays args s ++ Jvm.staticLocs frame_1_statics s) 24 384 → Post tb e args s (.returned v) u) :
    ArmFor flags0 classFile x code maxLocals ret World_1 tables_1 room_1 Calls_1 rest_1 Pre_1 Post := by
  intro l hfl _ _ p e ha hc hk s m args below hf hA hF happ hP
  obtain ⟨hcalls, hrest, hpre⟩ := hP
  obtain ⟨-, -, -, hnamed, -, -, -, hat⟩ := (Spec.applies_iff hf).mp happ
  obtain ⟨hg, hn⟩ := and_e (Cond.before_iff.mp (show (Jvm.Cond.and given_1 narrow_1).before args s = true from hpre))
  obtain ⟨g1, g2⟩ := and_e hg
  obtain ⟨g3, g4⟩ := and_e g2
  obtain ⟨g5, g6⟩ := and_e g4
  obtain ⟨g7, g8⟩ := and_e g6
  obtain ⟨w0, w1, w2, w3, rfl⟩ : ∃ w0 w1 w2 w3 : Value, args = #[w0, w1, w2, w3] := by
    have hs : args.size = 4 := by simpa [Cond.value, given_1] using g1
    obtain ⟨L⟩ := args
    match L, hs with
    | [w0, w1, w2, w3], _ => exact ⟨w0, w1, w2, w3, rfl⟩
  have hw := fun d (hd : d ∈ tables_1) => atoms_spec (ws := Jvm.Cond.code x code maxLocals ret :: tables_1) hat d (List.mem_cons_of_mem _ hd)
  have hfit : Fit s := fun {y c} hc i hi => by
    obtain ⟨ha, rfl⟩ := Array.getElem?_eq_some_iff.mp hc
    have q := List.all_eq_true.mp ((Array.all_eq_true_iff_forall_mem.mp hF) _ (Array.getElem_mem ha)) i (List.mem_range.mpr hi)
    simpa [Array.getElem?_eq_getElem hi] using q
  obtain ⟨i0, ei0⟩ := isL_v g3
  obtain rfl : w0 = (.long i0) := Option.some.inj ei0
  obtain ⟨i1, ei1⟩ := isL_v g5
  obtain rfl : w1 = (.long i1) := Option.some.inj ei1
  obtain ⟨i2, ei2⟩ := isL_v g7
  obtain rfl : w2 = (.long i2) := Option.some.inj ei2
  obtain ⟨i3, ei3⟩ := is_v g8
  obtain rfl : w3 = (.int i3) := Option.some.inj ei3
  obtain ⟨n, o, h1, h2, h3, _, L, rfl, ⟨rfl, N⟩, hq⟩ := rm0 l s _ hw s.heap.size i0 i1 i2 i3 s.heap (Nat.le_refl _)  tables_1 p e ha hc hk s m _ below hf ((Spec.applies_iff_loose hf).mp happ).1 ⟨rfl, State.Warmed39.refl s, rfl⟩ trivial
  refine ⟨n, _, h1, h2, h3, hpost _ _ _ _ _ _ ⟨Cond.after_iff.mpr rfl, Cond.after_iff.mpr (eq_i res_at (Term.int_eval (1)) rfl), trivial⟩ ⟨hq.1, hq.2.1, (hq.2.2.sift fun y hy => Or.inr (N y hy)).mono (by decide) (by decide)⟩⟩
theorem main_1_1 : Claimed_1_1 := comes_1 fun _ _ _ _ _ _ h hF => ⟨h.1, hF⟩
theorem main_1_2 : Claimed_1_2 := comes_1 fun _ _ _ _ _ _ h hF => ⟨h.2.1, hF⟩
end Jvm.Pilot.@@N@@
namespace Jvm.Pilot.@@N@@
open Jvm Jvm.ClassFile Sem Op Lib Jvm.Free Jvm.Stand Jvm.Pilot.@@N@@.Jvm.D
/-! MADE BY PROGRAM (witnessworld.py) out of the Statement's table words and the real class files: 16 classes; the members and pool entries that the words name. The judged class is class 1, her method 1. -/
namespace start1
open Jvm.ClassFile
def u (s : String) : CpInfo := .utf8 (stringToUtf16 s)
/-- a pool by its gaps: so many unusable entries, then the entry; so many at the end -/
def gap : Nat → List CpInfo → List CpInfo
  | 0, r => r
  | n + 1, r => .unusable :: gap n r
def poolList (es : List (Nat × CpInfo)) (last : Nat) : List CpInfo := es.foldr (fun e r => gap e.1 (e.2 :: r)) (gap last [])
def pool (es : List (Nat × CpInfo)) (last : Nat) : Array CpInfo := ⟨poolList es last⟩
def fileOf (pool : Array CpInfo) (this : Nat) (attrs : Array Attribute := #[]) (ms : Array MethodInfo := #[]) (fl : Nat := 33) (sup : Nat := 0) (ifs : Array Nat := #[]) (fds : Array FieldInfo := #[]) : ClassFile where
  minorVersion := 0
  majorVersion := 65
  constantPool := pool
  accessFlags := fl
  thisClass := this
  superClass := sup
  interfaces := ifs
  fields := fds
  methods := ms
  attributes := attrs
def plain (name : String) (sup : Option ClassId) : Class where
  name := name
  kind := .ordinary
  loader := none
  accessFlags := 33
  super := sup
  interfaces := #[]
  cf := none
  fields := #[]
  methods := #[]
  instanceTypes := #[]
  staticTypes := #[]
  resolved := #[]
  callSites := []
  init := .initialized
  statics := none
  mirror := none

def pool0 : Array CpInfo := pool [(5, u "<init>"), (0, u "()V"), (1, .class_ 10), (1, u "java/lang/Object")] 113

def k0c0 : Code := { maxStack := 0, maxLocals := 1, code := object_method_1_code, exceptionTable := #[], attributes := #[] }
def k0m0 : Method := { name := "<init>", desc := "()V", sig := { parameters := [], returnType := none }, accessFlags := 1, code := some k0c0 }
/-- java/lang/Object -/
def k0 : Class := { plain "java/lang/Object" none with
  accessFlags := 33
  interfaces := #[]
  cf := some (fileOf pool0 8 #[] #[{ accessFlags := 1, nameIndex := 5, descriptorIndex := 6, attributes := #[] }] 33 0 #[] #[])
  fields := #[]
  methods := #[k0m0]
  instanceTypes := #[]
  staticTypes := #[]
  resolved := Array.replicate 124 none
  statics := none }

def pool1 : Array CpInfo := pool [(2, .class_ 4), (0, .nameAndType 5 6), (0, u "java/lang/Object"), (0, u "<init>"), (0, u "()V"), (0, .class_ 8), (0, u "com/example/planwright/planwright/WholeNumbers"), (0, .methodref 7 3), (0, .methodref 7 11), (0, .nameAndType 12 6), (0, u "trim"), (0, .methodref 7 14), (0, .nameAndType 15 16), (0, u "add"), (0, u "(J)V"), (0, .methodref 7 18), (0, .nameAndType 19 20), (0, u "size"), (0, u "()I"), (0, .methodref 7 22), (0, .nameAndType 23 24), (0, u "get"), (0, u "(I)J"), (0, .class_ 26), (0, u "com/example/planwright/planwright/WholeNumbersGetPinLaw"), (2, u "law"), (0, u "(JJJI)Z")] 3

def k1m0 : Method := { name := "<init>", desc := "()V", sig := { parameters := [], returnType := none }, accessFlags := 1, code := none }
def k1c1 : Code := { maxStack := 4, maxLocals := 11, code := code, exceptionTable := #[], attributes := #[] }
def k1m1 : Method := { name := "law", desc := "(JJJI)Z", sig := { parameters := [.long, .long, .long, .int], returnType := some .boolean }, accessFlags := 9, code := some k1c1 }
/-- com/example/planwright/planwright/WholeNumbersGetPinLaw -/
def k1 : Class := { plain "com/example/planwright/planwright/WholeNumbersGetPinLaw" (some 0) with
  accessFlags := 49
  interfaces := #[]
  cf := some (fileOf pool1 25 #[] #[{ accessFlags := 1, nameIndex := 5, descriptorIndex := 6, attributes := #[] }, { accessFlags := 9, nameIndex := 29, descriptorIndex := 30, attributes := #[] }] 49 2 #[] #[])
  fields := #[]
  methods := #[k1m0, k1m1]
  instanceTypes := #[]
  staticTypes := #[]
  resolved := Array.replicate 34 none
  statics := none }

def pool2 : Array CpInfo := pool [(1, .methodref 2 3), (0, .class_ 4), (0, .nameAndType 5 6), (0, u "java/lang/Object"), (0, u "<init>"), (0, u "()V"), (0, .class_ 8), (0, u "com/example/planwright/planwright/WholeNumbers"), (0, .fieldref 7 10), (0, .nameAndType 11 12), (0, u "ints"), (0, u "[I"), (0, .fieldref 7 14), (0, .nameAndType 15 16), (0, u "longs"), (0, u "[J"), (0, .fieldref 7 18), (0, .nameAndType 19 20), (0, u "size"), (0, u "I"), (0, .methodref 7 22), (0, .nameAndType 23 24), (0, u "grown"), (0, u "()I"), (0, .methodref 26 27), (0, .class_ 28), (0, .nameAndType 29 30), (0, u "java/util/Arrays"), (0, u "copyOf"), (0, u "([II)[I"), (0, .methodref 26 32), (0, .nameAndType 29 33), (0, u "([JI)[J"), (0, .methodref 35 36), (0, .class_ 37), (0, .nameAndType 38 39), (0, u "java/util/Objects"), (0, u "checkIndex"), (0, u "(II)I"), (0, .methodref 41 42), (0, .class_ 43), (0, .nameAndType 44 39), (0, u "java/lang/Math"), (0, u "max"), (0, u "FIRST_CAPACITY"), (4, u "add"), (0, u "(J)V"), (1, u "get"), (0, u "(I)J"), (0, u "trim")] 2

def k2c0 : Code := { maxStack := 2, maxLocals := 1, code := prog_5_method_1_code, exceptionTable := #[], attributes := #[] }
def k2m0 : Method := { name := "<init>", desc := "()V", sig := { parameters := [], returnType := none }, accessFlags := 1, code := some k2c0 }
def k2c1 : Code := { maxStack := 4, maxLocals := 4, code := prog_5_method_2_code, exceptionTable := #[], attributes := #[] }
def k2m1 : Method := { name := "add", desc := "(J)V", sig := { parameters := [.long], returnType := none }, accessFlags := 1, code := some k2c1 }
def k2c2 : Code := { maxStack := 2, maxLocals := 2, code := prog_5_method_3_code, exceptionTable := #[], attributes := #[] }
def k2m2 : Method := { name := "get", desc := "(I)J", sig := { parameters := [.int], returnType := some .long }, accessFlags := 1, code := some k2c2 }
def k2c3 : Code := { maxStack := 1, maxLocals := 1, code := prog_5_method_4_code, exceptionTable := #[], attributes := #[] }
def k2m3 : Method := { name := "size", desc := "()I", sig := { parameters := [], returnType := some .int }, accessFlags := 1, code := some k2c3 }
def k2c4 : Code := { maxStack := 3, maxLocals := 1, code := prog_5_method_5_code, exceptionTable := #[], attributes := #[] }
def k2m4 : Method := { name := "trim", desc := "()V", sig := { parameters := [], returnType := none }, accessFlags := 1, code := some k2c4 }
def k2c5 : Code := { maxStack := 4, maxLocals := 1, code := prog_5_method_6_code, exceptionTable := #[], attributes := #[] }
def k2m5 : Method := { name := "grown", desc := "()I", sig := { parameters := [], returnType := some .int }, accessFlags := 2, code := some k2c5 }
/-- com/example/planwright/planwright/WholeNumbers -/
def k2 : Class := { plain "com/example/planwright/planwright/WholeNumbers" (some 0) with
  accessFlags := 33
  interfaces := #[]
  cf := some (fileOf pool2 7 #[] #[{ accessFlags := 1, nameIndex := 5, descriptorIndex := 6, attributes := #[] }, { accessFlags := 1, nameIndex := 50, descriptorIndex := 51, attributes := #[] }, { accessFlags := 1, nameIndex := 53, descriptorIndex := 54, attributes := #[] }, { accessFlags := 1, nameIndex := 19, descriptorIndex := 24, attributes := #[] }, { accessFlags := 1, nameIndex := 55, descriptorIndex := 6, attributes := #[] }, { accessFlags := 2, nameIndex := 23, descriptorIndex := 24, attributes := #[] }] 33 2 #[] #[{ accessFlags := 26, nameIndex := 45, descriptorIndex := 20, attributes := #[] }, { accessFlags := 2, nameIndex := 19, descriptorIndex := 20, attributes := #[] }, { accessFlags := 2, nameIndex := 11, descriptorIndex := 12, attributes := #[] }, { accessFlags := 2, nameIndex := 15, descriptorIndex := 16, attributes := #[] }])
  fields := #[{ name := "FIRST_CAPACITY", type := .int, accessFlags := 26, slot := 0, constantValue := 0 }, { name := "size", type := .int, accessFlags := 2, slot := 0, constantValue := 0 }, { name := "ints", type := (.array .int), accessFlags := 2, slot := 1, constantValue := 0 }, { name := "longs", type := (.array .long), accessFlags := 2, slot := 2, constantValue := 0 }]
  methods := #[k2m0, k2m1, k2m2, k2m3, k2m4, k2m5]
  instanceTypes := #[.int, (.array .int), (.array .long)]
  staticTypes := #[.int]
  resolved := Array.replicate 58 none
  statics := none }

def pool3 : Array CpInfo := pool [(2, .class_ 4), (1, u "java/lang/Object"), (0, u "<init>"), (0, u "()V"), (7, .class_ 16), (1, u "java/util/Arrays"), (57, .class_ 76), (1, u "java/util/Arrays$NaturalOrder"), (36, .class_ 115), (1, u "java/util/Arrays$LegacyMergeSort"), (1, u "Z"), (32, .methodref 151 152), (0, .class_ 153), (0, .nameAndType 154 155), (0, u "java/lang/System"), (0, u "arraycopy"), (0, u "(Ljava/lang/Object;ILjava/lang/Object;II)V"), (146, u "copyOf"), (1, .methodref 305 306), (0, .class_ 307), (0, .nameAndType 308 309), (0, u "java/lang/Math"), (0, u "min"), (0, u "(II)I"), (65, .class_ 376), (0, u "java/util/Arrays$ArrayList"), (68, u "$assertionsDisabled"), (269, u "MIN_ARRAY_SORT_GRAN"), (0, u "I"), (2, u "INSERTIONSORT_THRESHOLD"), (151, u "([II)[I"), (0, u "([JI)[J"), (102, .class_ 976), (0, u "java/util/Arrays$ArrayItr")] 52

def k3m0 : Method := { name := "<init>", desc := "()V", sig := { parameters := [], returnType := none }, accessFlags := 2, code := none }
def k3c1 : Code := { maxStack := 6, maxLocals := 3, code := jdk_65_method_123_code, exceptionTable := #[], attributes := #[] }
def k3m1 : Method := { name := "copyOf", desc := "([II)[I", sig := { parameters := [(.array .int), .int], returnType := some (.array .int) }, accessFlags := 9, code := some k3c1 }
def k3c2 : Code := { maxStack := 6, maxLocals := 3, code := jdk_65_method_124_code, exceptionTable := #[], attributes := #[] }
def k3m2 : Method := { name := "copyOf", desc := "([JI)[J", sig := { parameters := [(.array .long), .int], returnType := some (.array .long) }, accessFlags := 9, code := some k3c2 }
/-- java/util/Arrays -/
def k3 : Class := { plain "java/util/Arrays" (some 0) with
  accessFlags := 49
  interfaces := #[]
  cf := some (fileOf pool3 14 #[.nestMembers #[975, 375, 113, 74]] #[{ accessFlags := 2, nameIndex := 5, descriptorIndex := 6, attributes := #[] }, { accessFlags := 9, nameIndex := 302, descriptorIndex := 871, attributes := #[] }, { accessFlags := 9, nameIndex := 302, descriptorIndex := 872, attributes := #[] }] 49 2 #[] #[{ accessFlags := 26, nameIndex := 715, descriptorIndex := 716, attributes := #[] }, { accessFlags := 26, nameIndex := 719, descriptorIndex := 716, attributes := #[] }, { accessFlags := 4120, nameIndex := 445, descriptorIndex := 117, attributes := #[] }])
  fields := #[{ name := "MIN_ARRAY_SORT_GRAN", type := .int, accessFlags := 26, slot := 0, constantValue := 0 }, { name := "INSERTIONSORT_THRESHOLD", type := .int, accessFlags := 26, slot := 1, constantValue := 0 }, { name := "$assertionsDisabled", type := .boolean, accessFlags := 4120, slot := 2, constantValue := 0 }]
  methods := #[k3m0, k3m1, k3m2]
  instanceTypes := #[]
  staticTypes := #[.int, .int, .boolean]
  resolved := Array.replicate 1029 none
  statics := none }

def pool4 : Array CpInfo := pool [(1, .class_ 2), (0, u "java/lang/Math"), (1, .class_ 6), (1, u "java/lang/Object"), (0, u "<init>"), (0, u "()V"), (89, .class_ 100), (1, u "java/lang/Math$RandomNumberGeneratorHolder"), (71, u "negativeZeroFloatBits"), (0, u "J"), (2, u "negativeZeroDoubleBits"), (21, u "max"), (2, u "min"), (43, u "$assertionsDisabled"), (0, u "Z"), (88, u "(II)I"), (2, u "twoToTheDoubleScaleDown"), (0, u "D"), (4, u "twoToTheDoubleScaleUp"), (9, u "E"), (3, u "PI"), (2, u "TAU"), (2, u "DEGREES_TO_RADIANS"), (0, u "RADIANS_TO_DEGREES")] 94

def k4m0 : Method := { name := "<init>", desc := "()V", sig := { parameters := [], returnType := none }, accessFlags := 2, code := none }
def k4c1 : Code := { maxStack := 2, maxLocals := 2, code := jdk_29_method_65_code, exceptionTable := #[], attributes := #[] }
def k4m1 : Method := { name := "max", desc := "(II)I", sig := { parameters := [.int, .int], returnType := some .int }, accessFlags := 9, code := some k4c1 }
def k4c2 : Code := { maxStack := 2, maxLocals := 2, code := jdk_29_method_69_code, exceptionTable := #[], attributes := #[] }
def k4m2 : Method := { name := "min", desc := "(II)I", sig := { parameters := [.int, .int], returnType := some .int }, accessFlags := 9, code := some k4c2 }
/-- java/lang/Math -/
def k4 : Class := { plain "java/lang/Math" (some 0) with
  accessFlags := 49
  interfaces := #[]
  cf := some (fileOf pool4 1 #[.nestMembers #[98]] #[{ accessFlags := 2, nameIndex := 7, descriptorIndex := 8, attributes := #[] }, { accessFlags := 9, nameIndex := 198, descriptorIndex := 335, attributes := #[] }, { accessFlags := 9, nameIndex := 201, descriptorIndex := 335, attributes := #[] }] 49 4 #[] #[{ accessFlags := 25, nameIndex := 354, descriptorIndex := 339, attributes := #[] }, { accessFlags := 25, nameIndex := 358, descriptorIndex := 339, attributes := #[] }, { accessFlags := 25, nameIndex := 361, descriptorIndex := 339, attributes := #[] }, { accessFlags := 26, nameIndex := 364, descriptorIndex := 339, attributes := #[] }, { accessFlags := 26, nameIndex := 365, descriptorIndex := 339, attributes := #[] }, { accessFlags := 26, nameIndex := 172, descriptorIndex := 173, attributes := #[] }, { accessFlags := 26, nameIndex := 176, descriptorIndex := 173, attributes := #[] }, { accessFlags := 8, nameIndex := 344, descriptorIndex := 339, attributes := #[] }, { accessFlags := 8, nameIndex := 338, descriptorIndex := 339, attributes := #[] }, { accessFlags := 4120, nameIndex := 245, descriptorIndex := 246, attributes := #[] }])
  fields := #[{ name := "E", type := .double, accessFlags := 25, slot := 0, constantValue := 0 }, { name := "PI", type := .double, accessFlags := 25, slot := 1, constantValue := 0 }, { name := "TAU", type := .double, accessFlags := 25, slot := 2, constantValue := 0 }, { name := "DEGREES_TO_RADIANS", type := .double, accessFlags := 26, slot := 3, constantValue := 0 }, { name := "RADIANS_TO_DEGREES", type := .double, accessFlags := 26, slot := 4, constantValue := 0 }, { name := "negativeZeroFloatBits", type := .long, accessFlags := 26, slot := 5, constantValue := 0 }, { name := "negativeZeroDoubleBits", type := .long, accessFlags := 26, slot := 6, constantValue := 0 }, { name := "twoToTheDoubleScaleUp", type := .double, accessFlags := 8, slot := 7, constantValue := 0 }, { name := "twoToTheDoubleScaleDown", type := .double, accessFlags := 8, slot := 8, constantValue := 0 }, { name := "$assertionsDisabled", type := .boolean, accessFlags := 4120, slot := 9, constantValue := 0 }]
  methods := #[k4m0, k4m1, k4m2]
  instanceTypes := #[]
  staticTypes := #[.double, .double, .double, .double, .double, .long, .long, .double, .double, .boolean]
  resolved := Array.replicate 460 none
  statics := none }

def pool5 : Array CpInfo := pool [(2, .class_ 4), (1, u "java/lang/Object"), (0, u "<init>"), (0, u "()V"), (1, .class_ 10), (1, u "java/lang/System"), (0, u "allowSecurityManager"), (0, u "I"), (16, u "cons"), (0, u "Ljava/io/Console;"), (77, .class_ 110), (1, u "java/lang/System$CallersHolder"), (43, u "initialErrStream"), (0, u "Ljava/io/PrintStream;"), (19, u "security"), (0, u "Ljava/lang/SecurityManager;"), (31, .class_ 209), (0, u "java/lang/System$1"), (7, u "props"), (0, u "Ljava/util/Properties;"), (2, u "lineSeparator"), (0, u "Ljava/lang/String;"), (96, .class_ 321), (1, u "java/lang/System$LoggerFinder"), (5, .class_ 328), (0, u "java/lang/System$Logger"), (67, u "err"), (2, u "out"), (91, u "notSupportedJnuEncoding"), (15, u "in"), (17, u "initialIn"), (0, u "Ljava/io/InputStream;"), (35, u "bootLayer"), (0, u "Ljava/lang/ModuleLayer;"), (99, .class_ 664), (0, u "java/lang/System$2"), (9, u "NEVER"), (2, u "MAYBE"), (49, u "arraycopy"), (0, u "(Ljava/lang/Object;ILjava/lang/Object;II)V"), (72, .class_ 802), (0, u "java/lang/System$Logger$Level")] 31

def k5m0 : Method := { name := "<init>", desc := "()V", sig := { parameters := [], returnType := none }, accessFlags := 2, code := none }
def k5m1 : Method := { name := "arraycopy", desc := "(Ljava/lang/Object;ILjava/lang/Object;II)V", sig := { parameters := [(.object "java/lang/Object"), .int, (.object "java/lang/Object"), .int, .int], returnType := none }, accessFlags := 265, code := none }
/-- java/lang/System -/
def k5 : Class := { plain "java/lang/System" (some 0) with
  accessFlags := 49
  interfaces := #[]
  cf := some (fileOf pool5 8 #[.nestMembers #[319, 327, 801, 108, 663, 208]] #[{ accessFlags := 2, nameIndex := 5, descriptorIndex := 6, attributes := #[] }, { accessFlags := 265, nameIndex := 727, descriptorIndex := 728, attributes := #[] }] 49 2 #[] #[{ accessFlags := 25, nameIndex := 507, descriptorIndex := 526, attributes := #[] }, { accessFlags := 25, nameIndex := 399, descriptorIndex := 155, attributes := #[] }, { accessFlags := 25, nameIndex := 396, descriptorIndex := 155, attributes := #[] }, { accessFlags := 10, nameIndex := 525, descriptorIndex := 526, attributes := #[] }, { accessFlags := 26, nameIndex := 674, descriptorIndex := 12, attributes := #[] }, { accessFlags := 26, nameIndex := 677, descriptorIndex := 12, attributes := #[] }, { accessFlags := 10, nameIndex := 11, descriptorIndex := 12, attributes := #[] }, { accessFlags := 74, nameIndex := 175, descriptorIndex := 176, attributes := #[] }, { accessFlags := 10, nameIndex := 491, descriptorIndex := 222, attributes := #[] }, { accessFlags := 74, nameIndex := 29, descriptorIndex := 30, attributes := #[] }, { accessFlags := 74, nameIndex := 154, descriptorIndex := 155, attributes := #[] }, { accessFlags := 10, nameIndex := 217, descriptorIndex := 218, attributes := #[] }, { accessFlags := 10, nameIndex := 221, descriptorIndex := 222, attributes := #[] }, { accessFlags := 8, nameIndex := 562, descriptorIndex := 563, attributes := #[] }])
  fields := #[{ name := "in", type := (.object "java/io/InputStream"), accessFlags := 25, slot := 0, constantValue := 0 }, { name := "out", type := (.object "java/io/PrintStream"), accessFlags := 25, slot := 1, constantValue := 0 }, { name := "err", type := (.object "java/io/PrintStream"), accessFlags := 25, slot := 2, constantValue := 0 }, { name := "initialIn", type := (.object "java/io/InputStream"), accessFlags := 10, slot := 3, constantValue := 0 }, { name := "NEVER", type := .int, accessFlags := 26, slot := 4, constantValue := 0 }, { name := "MAYBE", type := .int, accessFlags := 26, slot := 5, constantValue := 0 }, { name := "allowSecurityManager", type := .int, accessFlags := 10, slot := 6, constantValue := 0 }, { name := "security", type := (.object "java/lang/SecurityManager"), accessFlags := 74, slot := 7, constantValue := 0 }, { name := "notSupportedJnuEncoding", type := (.object "java/lang/String"), accessFlags := 10, slot := 8, constantValue := 0 }, { name := "cons", type := (.object "java/io/Console"), accessFlags := 74, slot := 9, constantValue := 0 }, { name := "initialErrStream", type := (.object "java/io/PrintStream"), accessFlags := 74, slot := 10, constantValue := 0 }, { name := "props", type := (.object "java/util/Properties"), accessFlags := 10, slot := 11, constantValue := 0 }, { name := "lineSeparator", type := (.object "java/lang/String"), accessFlags := 10, slot := 12, constantValue := 0 }, { name := "bootLayer", type := (.object "java/lang/ModuleLayer"), accessFlags := 8, slot := 13, constantValue := 0 }]
  methods := #[k5m0, k5m1]
  instanceTypes := #[]
  staticTypes := #[(.object "java/io/InputStream"), (.object "java/io/PrintStream"), (.object "java/io/PrintStream"), (.object "java/io/InputStream"), .int, .int, .int, (.object "java/lang/SecurityManager"), (.object "java/lang/String"), (.object "java/io/Console"), (.object "java/io/PrintStream"), (.object "java/util/Properties"), (.object "java/lang/String"), (.object "java/lang/ModuleLayer")]
  resolved := Array.replicate 834 none
  statics := none }

def pool6 : Array CpInfo := pool [(2, .class_ 4), (1, u "java/lang/Object"), (0, u "<init>"), (0, u "()V"), (35, .class_ 44), (1, u "java/util/Objects"), (60, .methodref 106 107), (0, .class_ 108), (0, .nameAndType 109 110), (0, u "jdk/internal/util/Preconditions"), (0, u "checkIndex"), (0, u "(IILjava/util/function/BiFunction;)I"), (60, u "(II)I")] 12

def k6m0 : Method := { name := "<init>", desc := "()V", sig := { parameters := [], returnType := none }, accessFlags := 2, code := none }
def k6c1 : Code := { maxStack := 3, maxLocals := 2, code := jdk_31_method_17_code, exceptionTable := #[], attributes := #[] }
def k6m1 : Method := { name := "checkIndex", desc := "(II)I", sig := { parameters := [.int, .int], returnType := some .int }, accessFlags := 9, code := some k6c1 }
/-- java/util/Objects -/
def k6 : Class := { plain "java/util/Objects" (some 0) with
  accessFlags := 49
  interfaces := #[]
  cf := some (fileOf pool6 42 #[] #[{ accessFlags := 2, nameIndex := 5, descriptorIndex := 6, attributes := #[] }, { accessFlags := 9, nameIndex := 109, descriptorIndex := 171, attributes := #[] }] 49 2 #[] #[])
  fields := #[]
  methods := #[k6m0, k6m1]
  instanceTypes := #[]
  staticTypes := #[]
  resolved := Array.replicate 184 none
  statics := none }

def pool7 : Array CpInfo := pool [(2, .class_ 4), (1, u "java/lang/Object"), (0, u "<init>"), (0, u "()V"), (17, .class_ 26), (1, u "jdk/internal/util/Preconditions"), (6, u "checkIndex"), (21, .class_ 56), (0, u "jdk/internal/util/Preconditions$4"), (57, .class_ 115), (0, u "jdk/internal/util/Preconditions$1"), (7, u "SIOOBE_FORMATTER"), (0, u "Ljava/util/function/BiFunction;"), (0, .class_ 126), (0, u "jdk/internal/util/Preconditions$2"), (3, u "AIOOBE_FORMATTER"), (0, .class_ 132), (0, u "jdk/internal/util/Preconditions$3"), (3, u "IOOBE_FORMATTER"), (41, u "(IILjava/util/function/BiFunction;)I")] 15

def k7m0 : Method := { name := "<init>", desc := "()V", sig := { parameters := [], returnType := none }, accessFlags := 1, code := none }
def k7c1 : Code := { maxStack := 3, maxLocals := 3, code := jdk_41_method_11_code, exceptionTable := #[], attributes := #[] }
def k7m1 : Method := { name := "checkIndex", desc := "(IILjava/util/function/BiFunction;)I", sig := { parameters := [.int, .int, (.object "java/util/function/BiFunction")], returnType := some .int }, accessFlags := 9, code := some k7c1 }
/-- jdk/internal/util/Preconditions -/
def k7 : Class := { plain "jdk/internal/util/Preconditions" (some 0) with
  accessFlags := 33
  interfaces := #[]
  cf := some (fileOf pool7 24 #[.nestMembers #[55, 131, 125, 114]] #[{ accessFlags := 1, nameIndex := 5, descriptorIndex := 6, attributes := #[] }, { accessFlags := 9, nameIndex := 33, descriptorIndex := 178, attributes := #[] }] 33 2 #[] #[{ accessFlags := 25, nameIndex := 123, descriptorIndex := 124, attributes := #[] }, { accessFlags := 25, nameIndex := 130, descriptorIndex := 124, attributes := #[] }, { accessFlags := 25, nameIndex := 136, descriptorIndex := 124, attributes := #[] }])
  fields := #[{ name := "SIOOBE_FORMATTER", type := (.object "java/util/function/BiFunction"), accessFlags := 25, slot := 0, constantValue := 0 }, { name := "AIOOBE_FORMATTER", type := (.object "java/util/function/BiFunction"), accessFlags := 25, slot := 1, constantValue := 0 }, { name := "IOOBE_FORMATTER", type := (.object "java/util/function/BiFunction"), accessFlags := 25, slot := 2, constantValue := 0 }]
  methods := #[k7m0, k7m1]
  instanceTypes := #[]
  staticTypes := #[(.object "java/util/function/BiFunction"), (.object "java/util/function/BiFunction"), (.object "java/util/function/BiFunction")]
  resolved := Array.replicate 194 none
  statics := none }

def pool8 : Array CpInfo := pool [(1, u "java/lang/Cloneable"), (0, .class_ 1), (0, u "java/lang/Object"), (0, .class_ 3)] 3

/-- java/lang/Cloneable -/
def k8 : Class := { plain "java/lang/Cloneable" (some 0) with
  accessFlags := 1537
  interfaces := #[]
  cf := some (fileOf pool8 2 #[] #[] 1537 4 #[] #[])
  fields := #[]
  methods := #[]
  instanceTypes := #[]
  staticTypes := #[]
  resolved := Array.replicate 8 none
  statics := none }

def pool9 : Array CpInfo := pool [(1, u "java/io/Serializable"), (0, .class_ 1), (0, u "java/lang/Object"), (0, .class_ 3)] 3

/-- java/io/Serializable -/
def k9 : Class := { plain "java/io/Serializable" (some 0) with
  accessFlags := 1537
  interfaces := #[]
  cf := some (fileOf pool9 2 #[] #[] 1537 4 #[] #[])
  fields := #[]
  methods := #[]
  instanceTypes := #[]
  staticTypes := #[]
  resolved := Array.replicate 8 none
  statics := none }

/-- the primitive byte -/
def k10 : Class := { plain "byte" none with kind := .primitive 'B', accessFlags := 0x411 }
/-- [B -/
def k11 : Class := { plain "[B" (some 0) with kind := .array 10 .byte, interfaces := #[8, 9], accessFlags := 1041 }

/-- the primitive int -/
def k12 : Class := { plain "int" none with kind := .primitive 'I', accessFlags := 0x411 }
/-- [I -/
def k13 : Class := { plain "[I" (some 0) with kind := .array 12 .int, interfaces := #[8, 9], accessFlags := 1041 }

/-- the primitive long -/
def k14 : Class := { plain "long" none with kind := .primitive 'J', accessFlags := 0x411 }
/-- [J -/
def k15 : Class := { plain "[J" (some 0) with kind := .array 14 .long, interfaces := #[8, 9], accessFlags := 1041 }

def heap : Heap := #[]
def classes : Array Class := #[k0, k1, k2, k3, k4, k5, k6, k7, k8, k9, k10, k11, k12, k13, k14, k15]
def interned : List (Array UInt16 × Addr) := []
def slotsUsed : Nat := 0
def theMethod : MethodId := ⟨1, 1⟩
def args0 : Array Value := #[.long 5, .long 3, .long 5, .int 7]
def aboutOver (below : List Frame) : State where
  vm := { classes := classes, interned := interned.toArray }
  heap := heap
  slotsUsed := slotsUsed
  threads := #[{ frames := .invoking theMethod args0 :: below }]
def below0 : List Frame := [.native { method := ⟨0, 0⟩, args := #[] }]
def about1 : State := aboutOver below0
def p0 : Program := .bare "" "" ""
def e0 : Env := launch0.env 0 0 0
theorem w_frames : about1.frames = Frame.invoking theMethod args0 :: below0 := rfl
set_option maxRecDepth 65536 in
theorem w_args : argsFit about1.vm theMethod args0 = true := by decide +kernel
set_option maxRecDepth 65536 in
theorem w_heap : heapFits about1 = true := by decide +kernel
set_option maxRecDepth 65536 in
theorem w_runnable : about1.curStatus? = some .runnable := by decide +kernel
set_option maxRecDepth 65536 in
theorem w_alone : about1.alone = true := by decide +kernel
set_option maxRecDepth 65536 in
theorem w_named : about1.methodNamed? x = some theMethod := by decide +kernel
set_option maxRecDepth 65536 in
theorem w_hears : about1.hears theMethod below0 = true := by decide +kernel
set_option maxRecDepth 65536 in
theorem w_ripe : about1.ripe theMethod args0 below0 = true := by decide +kernel
theorem w_running : about1.status = .running := rfl
set_option maxRecDepth 65536 in
theorem w_room : about1.hasRoom e0.platform room_1 = true :=
  launch0.hasRoom_least _ room_1 (by decide +kernel) (by decide +kernel) (by decide +kernel) (by decide +kernel) (by decide +kernel) (by decide +kernel)
theorem allAtoms_all (ts : List Jvm.Cond) (a : Array Jvm.Value) (st : Jvm.State) : (allAtoms ts).before a st = ts.all (fun c => c.before a st) := by
  induction ts with
  | nil => rfl
  | cons c t ih =>
    show (Jvm.Cond.and c (allAtoms t)).before a st = _
    rw [Jvm.Cond.before_and, ih, List.all_cons]
def words1 : List Jvm.Cond := Jvm.Cond.code x code maxLocals ret :: tables_1
/-- a 'code' word, met by the world's own term for the bytes: nothing is compared byte by byte -/
theorem code_word {y : MethodName} {bytes : ByteArray} {mx : Nat} {rt : Option FieldType} {a : Array Value} {s : State} {m : MethodId} {meth : Method} {c : Code} (h1 : s.methodNamed? y = some m) (h2 : s.vm.method? m = some meth) (h3 : meth.code = some c) (h4 : c.code = bytes)
    (h5 : (c.maxLocals == mx && c.exceptionTable.isEmpty && decide (c.maxStack ≤ mostOperands) && decide (meth.sig.returnType = rt) && !meth.locks && decide (parseMethodDescriptor y.desc = some meth.sig)) = true) : (Jvm.Cond.code y bytes mx rt).before a s = true := by
  simp only [Bool.and_eq_true, beq_iff_eq, Bool.not_eq_true', decide_eq_true_eq] at h5
  obtain ⟨⟨⟨⟨⟨g1, g2⟩, g3⟩, g4⟩, g5⟩, g6⟩ := h5
  simp [Cond.before, Cond.holds, Cond.value, h1, h2, h3, h4, g1, g2, g3, g4, g5, g6]
def isCode : Jvm.Cond → Bool
  | .code _ _ _ _ => true
  | _ => false
theorem all_split {L : List Jvm.Cond} {P : Jvm.Cond → Bool} (h1 : L.all (fun c => isCode c || P c) = true) (h2 : ∀ c ∈ L.filter isCode, P c = true) : L.all P = true := by
  refine List.all_eq_true.mpr fun c hc => ?_
  have h := List.all_eq_true.mp h1 c hc
  rcases Bool.eq_false_or_eq_true (isCode c) with hi | hi
  · exact h2 c (List.mem_filter.mpr ⟨hc, hi⟩)
  · simpa [hi] using h
set_option maxRecDepth 65536 in
theorem w_c0 : (Jvm.Cond.code x code maxLocals ret).before args0 about1 = true := code_word (m := ⟨1, 1⟩) (meth := k1m1) (c := k1c1) (by decide +kernel) rfl rfl rfl (by decide +kernel)
set_option maxRecDepth 65536 in
theorem w_c1 : (Jvm.Cond.code ({ cls := "com/example/planwright/planwright/WholeNumbers", name := "<init>", desc := "()V" } : Jvm.MethodName) prog_5_method_1_code (1 : Nat) (Option.none : Option Jvm.ClassFile.FieldType)).before args0 about1 = true := code_word (m := ⟨2, 0⟩) (meth := k2m0) (c := k2c0) (by decide +kernel) rfl rfl rfl (by decide +kernel)
set_option maxRecDepth 65536 in
theorem w_c2 : (Jvm.Cond.code ({ cls := "java/lang/Object", name := "<init>", desc := "()V" } : Jvm.MethodName) object_method_1_code (1 : Nat) (Option.none : Option Jvm.ClassFile.FieldType)).before args0 about1 = true := code_word (m := ⟨0, 0⟩) (meth := k0m0) (c := k0c0) (by decide +kernel) rfl rfl rfl (by decide +kernel)
set_option maxRecDepth 65536 in
theorem w_c3 : (Jvm.Cond.code ({ cls := "com/example/planwright/planwright/WholeNumbers", name := "trim", desc := "()V" } : Jvm.MethodName) prog_5_method_5_code (1 : Nat) (Option.none : Option Jvm.ClassFile.FieldType)).before args0 about1 = true := code_word (m := ⟨2, 4⟩) (meth := k2m4) (c := k2c4) (by decide +kernel) rfl rfl rfl (by decide +kernel)
set_option maxRecDepth 65536 in
theorem w_c4 : (Jvm.Cond.code ({ cls := "java/util/Arrays", name := "copyOf", desc := "([II)[I" } : Jvm.MethodName) jdk_65_method_123_code (3 : Nat) (Option.some (Jvm.ClassFile.FieldType.array Jvm.ClassFile.FieldType.int))).before args0 about1 = true := code_word (m := ⟨3, 1⟩) (meth := k3m1) (c := k3c1) (by decide +kernel) rfl rfl rfl (by decide +kernel)
set_option maxRecDepth 65536 in
theorem w_c5 : (Jvm.Cond.code ({ cls := "java/lang/Math", name := "min", desc := "(II)I" } : Jvm.MethodName) jdk_29_method_69_code (2 : Nat) (Option.some Jvm.ClassFile.FieldType.int)).before args0 about1 = true := code_word (m := ⟨4, 2⟩) (meth := k4m2) (c := k4c2) (by decide +kernel) rfl rfl rfl (by decide +kernel)
set_option maxRecDepth 65536 in
theorem w_c6 : (Jvm.Cond.code ({ cls := "com/example/planwright/planwright/WholeNumbers", name := "add", desc := "(J)V" } : Jvm.MethodName) prog_5_method_2_code (4 : Nat) (Option.none : Option Jvm.ClassFile.FieldType)).before args0 about1 = true := code_word (m := ⟨2, 1⟩) (meth := k2m1) (c := k2c1) (by decide +kernel) rfl rfl rfl (by decide +kernel)
set_option maxRecDepth 65536 in
theorem w_c7 : (Jvm.Cond.code ({ cls := "com/example/planwright/planwright/WholeNumbers", name := "grown", desc := "()I" } : Jvm.MethodName) prog_5_method_6_code (1 : Nat) (Option.some Jvm.ClassFile.FieldType.int)).before args0 about1 = true := code_word (m := ⟨2, 5⟩) (meth := k2m5) (c := k2c5) (by decide +kernel) rfl rfl rfl (by decide +kernel)
set_option maxRecDepth 65536 in
theorem w_c8 : (Jvm.Cond.code ({ cls := "java/lang/Math", name := "max", desc := "(II)I" } : Jvm.MethodName) jdk_29_method_65_code (2 : Nat) (Option.some Jvm.ClassFile.FieldType.int)).before args0 about1 = true := code_word (m := ⟨4, 1⟩) (meth := k4m1) (c := k4c1) (by decide +kernel) rfl rfl rfl (by decide +kernel)
set_option maxRecDepth 65536 in
theorem w_c9 : (Jvm.Cond.code ({ cls := "com/example/planwright/planwright/WholeNumbers", name := "size", desc := "()I" } : Jvm.MethodName) prog_5_method_4_code (1 : Nat) (Option.some Jvm.ClassFile.FieldType.int)).before args0 about1 = true := code_word (m := ⟨2, 3⟩) (meth := k2m3) (c := k2c3) (by decide +kernel) rfl rfl rfl (by decide +kernel)
set_option maxRecDepth 65536 in
theorem w_c10 : (Jvm.Cond.code ({ cls := "com/example/planwright/planwright/WholeNumbers", name := "get", desc := "(I)J" } : Jvm.MethodName) prog_5_method_3_code (2 : Nat) (Option.some Jvm.ClassFile.FieldType.long)).before args0 about1 = true := code_word (m := ⟨2, 2⟩) (meth := k2m2) (c := k2c2) (by decide +kernel) rfl rfl rfl (by decide +kernel)
set_option maxRecDepth 65536 in
theorem w_c11 : (Jvm.Cond.code ({ cls := "java/util/Objects", name := "checkIndex", desc := "(II)I" } : Jvm.MethodName) jdk_31_method_17_code (2 : Nat) (Option.some Jvm.ClassFile.FieldType.int)).before args0 about1 = true := code_word (m := ⟨6, 1⟩) (meth := k6m1) (c := k6c1) (by decide +kernel) rfl rfl rfl (by decide +kernel)
set_option maxRecDepth 65536 in
theorem w_c12 : (Jvm.Cond.code ({ cls := "jdk/internal/util/Preconditions", name := "checkIndex", desc := "(IILjava/util/function/BiFunction;)I" } : Jvm.MethodName) jdk_41_method_11_code (3 : Nat) (Option.some Jvm.ClassFile.FieldType.int)).before args0 about1 = true := code_word (m := ⟨7, 1⟩) (meth := k7m1) (c := k7c1) (by decide +kernel) rfl rfl rfl (by decide +kernel)
set_option maxRecDepth 65536 in
theorem w_c13 : (Jvm.Cond.code ({ cls := "java/util/Arrays", name := "copyOf", desc := "([JI)[J" } : Jvm.MethodName) jdk_65_method_124_code (3 : Nat) (Option.some (Jvm.ClassFile.FieldType.array Jvm.ClassFile.FieldType.long))).before args0 about1 = true := code_word (m := ⟨3, 2⟩) (meth := k3m2) (c := k3c2) (by decide +kernel) rfl rfl rfl (by decide +kernel)
def codes1 : List Jvm.Cond := [Jvm.Cond.code x code maxLocals ret, Jvm.Cond.code ({ cls := "com/example/planwright/planwright/WholeNumbers", name := "<init>", desc := "()V" } : Jvm.MethodName) prog_5_method_1_code (1 : Nat) (Option.none : Option Jvm.ClassFile.FieldType), Jvm.Cond.code ({ cls := "java/lang/Object", name := "<init>", desc := "()V" } : Jvm.MethodName) object_method_1_code (1 : Nat) (Option.none : Option Jvm.ClassFile.FieldType), Jvm.Cond.code ({ cls := "com/example/planwright/planwright/WholeNumbers", name := "trim", desc := "()V" } : Jvm.MethodName) prog_5_method_5_code (1 : Nat) (Option.none : Option Jvm.ClassFile.FieldType), Jvm.Cond.code ({ cls := "java/util/Arrays", name := "copyOf", desc := "([II)[I" } : Jvm.MethodName) jdk_65_method_123_code (3 : Nat) (Option.some (Jvm.ClassFile.FieldType.array Jvm.ClassFile.FieldType.int)), Jvm.Cond.code ({ cls := "java/lang/Math", name := "min", desc := "(II)I" } : Jvm.MethodName) jdk_29_method_69_code (2 : Nat) (Option.some Jvm.ClassFile.FieldType.int), Jvm.Cond.code ({ cls := "com/example/planwright/planwright/WholeNumbers", name := "add", desc := "(J)V" } : Jvm.MethodName) prog_5_method_2_code (4 : Nat) (Option.none : Option Jvm.ClassFile.FieldType), Jvm.Cond.code ({ cls := "com/example/planwright/planwright/WholeNumbers", name := "grown", desc := "()I" } : Jvm.MethodName) prog_5_method_6_code (1 : Nat) (Option.some Jvm.ClassFile.FieldType.int), Jvm.Cond.code ({ cls := "java/lang/Math", name := "max", desc := "(II)I" } : Jvm.MethodName) jdk_29_method_65_code (2 : Nat) (Option.some Jvm.ClassFile.FieldType.int), Jvm.Cond.code ({ cls := "com/example/planwright/planwright/WholeNumbers", name := "size", desc := "()I" } : Jvm.MethodName) prog_5_method_4_code (1 : Nat) (Option.some Jvm.ClassFile.FieldType.int), Jvm.Cond.code ({ cls := "com/example/planwright/planwright/WholeNumbers", name := "get", desc := "(I)J" } : Jvm.MethodName) prog_5_method_3_code (2 : Nat) (Option.some Jvm.ClassFile.FieldType.long), Jvm.Cond.code ({ cls := "java/util/Objects", name := "checkIndex", desc := "(II)I" } : Jvm.MethodName) jdk_31_method_17_code (2 : Nat) (Option.some Jvm.ClassFile.FieldType.int), Jvm.Cond.code ({ cls := "jdk/internal/util/Preconditions", name := "checkIndex", desc := "(IILjava/util/function/BiFunction;)I" } : Jvm.MethodName) jdk_41_method_11_code (3 : Nat) (Option.some Jvm.ClassFile.FieldType.int), Jvm.Cond.code ({ cls := "java/util/Arrays", name := "copyOf", desc := "([JI)[J" } : Jvm.MethodName) jdk_65_method_124_code (3 : Nat) (Option.some (Jvm.ClassFile.FieldType.array Jvm.ClassFile.FieldType.long))]
set_option maxRecDepth 65536 in
theorem codes_eq : words1.filter isCode = codes1 := rfl
theorem w_codes : ∀ c ∈ words1.filter isCode, c.before args0 about1 = true := by
  rw [codes_eq]
  intro c hc
  simp only [codes1, List.mem_cons, List.not_mem_nil, or_false] at hc
  rcases hc with rfl | rfl | rfl | rfl | rfl | rfl | rfl | rfl | rfl | rfl | rfl | rfl | rfl | rfl
  · exact w_c0
  · exact w_c1
  · exact w_c2
  · exact w_c3
  · exact w_c4
  · exact w_c5
  · exact w_c6
  · exact w_c7
  · exact w_c8
  · exact w_c9
  · exact w_c10
  · exact w_c11
  · exact w_c12
  · exact w_c13
set_option maxRecDepth 65536 in
theorem w_t1 : (words1.take 24).all (fun c => isCode c || c.before args0 about1) = true := by decide +kernel
set_option maxRecDepth 65536 in
theorem w_t2 : ((words1.drop 24).take 24).all (fun c => isCode c || c.before args0 about1) = true := by decide +kernel
set_option maxRecDepth 65536 in
theorem w_t3 : ((words1.drop 24).drop 24).all (fun c => isCode c || c.before args0 about1) = true := by decide +kernel
theorem w_tables : (allAtoms (Jvm.Cond.code x code maxLocals ret :: tables_1)).before args0 about1 = true := by
  rw [allAtoms_all]
  show words1.all (fun c => c.before args0 about1) = true
  refine all_split ?_ w_codes
  rw [← List.take_append_drop 24 words1, List.all_append, w_t1, ← List.take_append_drop 24 (words1.drop 24), List.all_append, w_t2, w_t3]
  rfl
set_option maxRecDepth 65536 in
theorem w_case : (Jvm.Cond.and given_1 narrow_1).before args0 about1 = true := by decide +kernel
theorem w_applies : (headSpec (Jvm.Cond.code x code maxLocals ret :: tables_1) room_1).applies x e0.platform about1 = true :=
  (Spec.applies_iff w_frames).mpr ⟨w_running, w_runnable, w_alone, w_named, w_hears, w_ripe, w_room, w_tables⟩
theorem atStart : AtStart classFile x code maxLocals ret World_1 tables_1 room_1 Calls_1 rest_1 Pre_1 launch0 p0 e0 about1 theMethod args0 below0 :=
  ⟨lists_1, trivial, launch0.admits_env _ _ _, launch0.least_env, fairChoices_fair.cas, fairChoices_fair.clock, w_frames, w_args, w_heap, w_applies, trivial, trivial, w_case⟩
end start1
theorem witness_1 : WitnessClaimed_1 := ⟨start1.p0, start1.e0, start1.about1, start1.theMethod, start1.args0, start1.below0, start1.atStart⟩
end Jvm.Pilot.@@N@@
