import JvmDerived
import JvmDerived.Pilot.@@N@@Statement
import JvmDerived.Pilot.@@N@@Code
set_option linter.unusedVariables false
set_option linter.unusedSimpArgs false
namespace Jvm.RoadKit
open Sem ClassFile Op Lib Jvm.Stand Jvm.Free Jvm.LawKit
section New
variable {p : Program} {l : Launch} {e : Env} {R : Room} {s : State} {m : MethodId} {args : Array Value} {below : List Frame} {meth : Method} {c : Code} {T : State} {locs : List Loc} {cells slots : Nat}
theorem retI (X : Stand p l e R s m args below meth c T locs cells slots) (hx : p.tables.exec = Jvm.exec) {pc : Nat} {Ls : Array Slot} {z : Int32} {rest : List Value} (hret : meth.sig.returnType = some .int) (hd : decode c.code pc = .ok (.ireturn, 1)) {fs : List Frame}
    (hl : ∀ (f : JFrame) (acts : List Action), f.method = m → f.locked = none → f.entered = [] → (doReturn e (T.setTop f) acts (some (.int z))).1 = T.setFrames fs) : Steps p.tables e below (T.setTop (mkF m pc Ls (.int z :: rest))) (T.setFrames fs) := by
  have hm' : T.vm.method? m = some meth := X.method'
  have hn : narrow .int (.int z) = .int z := rfl
  show Steps p.tables e below (T.setTop { method := m, pc := pc, locals := Ls, stack := _ :: rest, locked := none }) _
  jvm_step X.here [X.here.top, hx, hd, hm', hret, hn]
  first | (intro acts; rw [hl _ acts rfl rfl rfl]) | rw [hl _ _ rfl rfl rfl]
  exact Steps.refl _
end New
end Jvm.RoadKit
namespace Jvm.Pilot.@@N@@
open Jvm Jvm.ClassFile Sem Op Lib Jvm.Free Jvm.Stand Jvm.LawKit Jvm.RoadKit Bundle Jvm.Pilot.@@N@@.Jvm.D
section Own
variable {p : Program} {l : Launch} {e : Env} {R : Room} {s : State} {m : MethodId} {args : Array Value} {below : List Frame} {meth : Method} {c : Code} {T : State} {locs : List Loc} {cells slots : Nat} {Z : State} {a0 : Array Value} {h h' : Heap} {n0 : Nat} {Q : Option Value → Heap → Prop} {kc ks : Nat} {Ls : Array Slot} {St : List Value} {pc : Nat} {own nm : String} {bytes : ByteArray} {maxL : Nat} {ret : Option FieldType}
/-- the rest of a run: from S the method ends by returning; Q says what it returns and leaves; nothing below n0 is written -/
def OGo (p : Program) (e : Env) (below : List Frame) (s : State) (n0 : Nat) (Q : Option Value → Heap → Prop) (kc ks : Nat) (S : State) : Prop :=
  ∃ U o, Steps p.tables e below S U ∧ U.status = .running ∧ Ended U below o ∧ ∃ v L, o = .returned v ∧ (Q v U.heap ∧ Fr n0 L) ∧ FrameEnd s o U L kc ks
theorem OGo.st {A B : State} (k : ∀ t, Steps p.tables e below A t → Steps p.tables e below B t) (g : OGo p e below s n0 Q kc ks A) : OGo p e below s n0 Q kc ks B := by
  obtain ⟨U, o, h1, r⟩ := g
  exact ⟨U, o, k U h1, r⟩
theorem OGo.imp {A : State} {Q' : Option Value → Heap → Prop} (k : ∀ v h, Q' v h → Q v h) (g : OGo p e below s n0 Q' kc ks A) : OGo p e below s n0 Q kc ks A := by
  obtain ⟨U, o, h1, h2, h3, v, L, h4, ⟨h5, h6⟩, h7⟩ := g
  exact ⟨U, o, h1, h2, h3, v, L, h4, ⟨k _ _ h5, h6⟩, h7⟩
/-- what a walk knows of the method in which it stands -/
def OCx (p : Program) (s : State) (m : MethodId) (meth : Method) (c : Code) (Z : State) (own nm : String) (bytes : ByteArray) (maxL : Nat) (ret : Option FieldType) : Prop :=
  p.tables.exec = Jvm.exec ∧ Z.Warmed39 s.vm ∧ c.code = bytes ∧ c.maxLocals = maxL ∧ s.vm.findClass own = some m.cls ∧ meth.name = nm ∧ meth.sig.returnType = ret ∧ meth.locks = false
theorem OCx.hx (K : OCx p s m meth c Z own nm bytes maxL ret) : p.tables.exec = Jvm.exec := K.1
theorem OCx.hZ (K : OCx p s m meth c Z own nm bytes maxL ret) : Z.Warmed39 s.vm := K.2.1
theorem OCx.hby (K : OCx p s m meth c Z own nm bytes maxL ret) : c.code = bytes := K.2.2.1
theorem OCx.hml (K : OCx p s m meth c Z own nm bytes maxL ret) : c.maxLocals = maxL := K.2.2.2.1
theorem OCx.hown (K : OCx p s m meth c Z own nm bytes maxL ret) : s.vm.findClass own = some m.cls := K.2.2.2.2.1
theorem OCx.hnm (K : OCx p s m meth c Z own nm bytes maxL ret) : meth.name = nm := K.2.2.2.2.2.1
theorem OCx.hret (K : OCx p s m meth c Z own nm bytes maxL ret) : meth.sig.returnType = ret := K.2.2.2.2.2.2.1
theorem OCx.hlk (K : OCx p s m meth c Z own nm bytes maxL ret) : meth.locks = false := K.2.2.2.2.2.2.2
/-- a body's contract: called with these arguments at this heap it returns, and Q -/
def OCon (l : Launch) (Z : State) (n0 : Nat) (y : MethodName) (bytes : ByteArray) (maxL : Nat) (ret : Option FieldType) (rm : Room) (as : Array Value) (h0 : Heap) (Q : Option Value → Heap → Prop) : Prop :=
  ∀ ws, MetFree l y (head1 (Jvm.Cond.code y bytes maxL ret :: ws) rm) (fun a U => a = as ∧ Z.Warmed39 U.vm ∧ U.heap = h0) (fun _ _ _ _ _ => True) (fun _ U o U' => ∃ v L, o = .returned v ∧ (Q v U'.heap ∧ Fr n0 L) ∧ FrameEnd U o U' L rm.cells rm.slots)
theorem OCon.of {y : MethodName} {rm : Room} {as : Array Value} {h0 : Heap} {Ls : Array Slot} (hpl : plainFor y = true) (ho : y.cls = own) (hn : y.name = nm) (hen : ∀ m, entryFrame m as maxL = mkF m 0 Ls [])
    (H : ∀ (p : Program) (e : Env) (s : State) (m : MethodId) (below : List Frame) (meth : Method) (c : Code) (T : State), Stand p l e rm s m as below meth c T [] 0 0 → OCx p s m meth c Z own nm bytes maxL ret → T.heap = h0 → OGo p e below s n0 Q rm.cells rm.slots (T.setTop (mkF m 0 Ls []))) : OCon l Z n0 y bytes maxL ret rm as h0 Q := by
  intro ws
  refine MetFree.of_bodySF hpl hisR ?_
  intro p e s m args below meth c s₁ Bd hml0 hP hK
  obtain ⟨rfl, hZ, hh⟩ := hP
  subst ho hn
  obtain ⟨U, o, h1, r⟩ := H p e s m below meth c s₁ (Stand.of_body Bd) ⟨Bd.exec, hZ, Bd.bytes, hml0, findClass_of_methodNamed Bd.named, (name_of_methodNamed Bd.named Bd.method).1, Bd.returns, Bd.notSynchronized⟩ (by rw [← hh, Bd.state]; rfl)
  exact ⟨U, o, castTop (hen m) h1, r⟩
theorem OCon.imp {y : MethodName} {rm : Room} {as : Array Value} {h0 : Heap} {Q' : Option Value → Heap → Prop} (g : OCon l Z n0 y bytes maxL ret rm as h0 Q) (k : ∀ v h, Q v h → Q' v h) : OCon l Z n0 y bytes maxL ret rm as h0 Q' := by
  intro ws p e ha hc hk s m args below hf happ hP hK
  obtain ⟨n, o, h1, h2, h3, v, L, h4, ⟨h5, h6⟩, h7⟩ := g ws p e ha hc hk s m args below hf happ hP hK
  exact ⟨n, o, h1, h2, h3, v, L, h4, ⟨k _ _ h5, h6⟩, h7⟩

theorem o_iload (X : Stand p l e R s m args below meth c T locs cells slots) (K : OCx p s m meth c Z own nm bytes maxL ret) {k : Nat} {v : Int32} (hd : decode bytes pc = .ok (.iload k, 2)) (pc' : Nat) (hp : pc + 2 = pc') (hl : Ls[k]? = some (.val (.int v))) (hr : OGo p e below s n0 Q kc ks (T.setTop (mkF m pc' Ls (.int v :: St)))) : OGo p e below s n0 Q kc ks (T.setTop (mkF m pc Ls St)) := by
  subst hp
  exact OGo.st (fun _ k => XS.iload X.here K.hx rfl (hb K.hby hd) hl k) hr
theorem o_iloadN (X : Stand p l e R s m args below meth c T locs cells slots) (K : OCx p s m meth c Z own nm bytes maxL ret) {k : Fin 4} {v : Int32} (hd : decode bytes pc = .ok (.iload_n k, 1)) (pc' : Nat) (hp : pc + 1 = pc') (hl : Ls[k.val]? = some (.val (.int v))) (hr : OGo p e below s n0 Q kc ks (T.setTop (mkF m pc' Ls (.int v :: St)))) : OGo p e below s n0 Q kc ks (T.setTop (mkF m pc Ls St)) := by
  subst hp
  exact OGo.st (fun _ k => XS.iloadN X.here K.hx rfl (hb K.hby hd) hl k) hr
theorem o_lload (X : Stand p l e R s m args below meth c T locs cells slots) (K : OCx p s m meth c Z own nm bytes maxL ret) {k : Nat} {v : Int64} (hd : decode bytes pc = .ok (.lload k, 2)) (pc' : Nat) (hp : pc + 2 = pc') (hl : Ls[k]? = some (.val (.long v))) (hr : OGo p e below s n0 Q kc ks (T.setTop (mkF m pc' Ls (.long v :: St)))) : OGo p e below s n0 Q kc ks (T.setTop (mkF m pc Ls St)) := by
  subst hp
  exact OGo.st (fun _ k => XS.lload X.here K.hx rfl (hb K.hby hd) hl k) hr
theorem o_lloadN (X : Stand p l e R s m args below meth c T locs cells slots) (K : OCx p s m meth c Z own nm bytes maxL ret) {k : Fin 4} {v : Int64} (hd : decode bytes pc = .ok (.lload_n k, 1)) (pc' : Nat) (hp : pc + 1 = pc') (hl : Ls[k.val]? = some (.val (.long v))) (hr : OGo p e below s n0 Q kc ks (T.setTop (mkF m pc' Ls (.long v :: St)))) : OGo p e below s n0 Q kc ks (T.setTop (mkF m pc Ls St)) := by
  subst hp
  exact OGo.st (fun _ k => XS.lloadN X.here K.hx rfl (hb K.hby hd) hl k) hr
theorem o_aload (X : Stand p l e R s m args below meth c T locs cells slots) (K : OCx p s m meth c Z own nm bytes maxL ret) {k : Nat} {v : Value} (hd : decode bytes pc = .ok (.aload k, 2)) (pc' : Nat) (hp : pc + 2 = pc') (hl : Ls[k]? = some (.val v)) (hv : v.isRef = true) (hr : OGo p e below s n0 Q kc ks (T.setTop (mkF m pc' Ls (v :: St)))) : OGo p e below s n0 Q kc ks (T.setTop (mkF m pc Ls St)) := by
  subst hp
  exact OGo.st (fun _ k => XS.aload X.here K.hx rfl (hb K.hby hd) hl hv k) hr
theorem o_aloadN (X : Stand p l e R s m args below meth c T locs cells slots) (K : OCx p s m meth c Z own nm bytes maxL ret) {k : Fin 4} {v : Value} (hd : decode bytes pc = .ok (.aload_n k, 1)) (pc' : Nat) (hp : pc + 1 = pc') (hl : Ls[k.val]? = some (.val v)) (hv : v.isRef = true) (hr : OGo p e below s n0 Q kc ks (T.setTop (mkF m pc' Ls (v :: St)))) : OGo p e below s n0 Q kc ks (T.setTop (mkF m pc Ls St)) := by
  subst hp
  exact OGo.st (fun _ k => XS.aloadN X.here K.hx rfl (hb K.hby hd) hl hv k) hr
theorem o_istore (X : Stand p l e R s m args below meth c T locs cells slots) (K : OCx p s m meth c Z own nm bytes maxL ret) {k : Nat} {x x' : Int32} (hd : decode bytes pc = .ok (.istore k, 2)) (pc' : Nat) (hp : pc + 2 = pc') (Ls' : Array Slot) (hv : x = x') (hl : storeLocals Ls k (.int x') = some Ls') (hr : OGo p e below s n0 Q kc ks (T.setTop (mkF m pc' Ls' St))) : OGo p e below s n0 Q kc ks (T.setTop (mkF m pc Ls (.int x :: St))) := by
  subst hp
  exact OGo.st (fun _ k => XS.istore X.here K.hx rfl (hb K.hby hd) rfl (hv ▸ hl) k) hr
theorem o_istoreN (X : Stand p l e R s m args below meth c T locs cells slots) (K : OCx p s m meth c Z own nm bytes maxL ret) {k : Fin 4} {x x' : Int32} (hd : decode bytes pc = .ok (.istore_n k, 1)) (pc' : Nat) (hp : pc + 1 = pc') (Ls' : Array Slot) (hv : x = x') (hl : storeLocals Ls k.val (.int x') = some Ls') (hr : OGo p e below s n0 Q kc ks (T.setTop (mkF m pc' Ls' St))) : OGo p e below s n0 Q kc ks (T.setTop (mkF m pc Ls (.int x :: St))) := by
  subst hp
  exact OGo.st (fun _ k => XS.istoreN X.here K.hx rfl (hb K.hby hd) rfl (hv ▸ hl) k) hr
theorem o_lstore (X : Stand p l e R s m args below meth c T locs cells slots) (K : OCx p s m meth c Z own nm bytes maxL ret) {k : Nat} {x x' : Int64} (hd : decode bytes pc = .ok (.lstore k, 2)) (pc' : Nat) (hp : pc + 2 = pc') (Ls' : Array Slot) (hv : x = x') (hl : storeLocals Ls k (.long x') = some Ls') (hr : OGo p e below s n0 Q kc ks (T.setTop (mkF m pc' Ls' St))) : OGo p e below s n0 Q kc ks (T.setTop (mkF m pc Ls (.long x :: St))) := by
  subst hp
  exact OGo.st (fun _ k => XS.lstore X.here K.hx rfl (hb K.hby hd) rfl (hv ▸ hl) k) hr
theorem o_lstoreN (X : Stand p l e R s m args below meth c T locs cells slots) (K : OCx p s m meth c Z own nm bytes maxL ret) {k : Fin 4} {x x' : Int64} (hd : decode bytes pc = .ok (.lstore_n k, 1)) (pc' : Nat) (hp : pc + 1 = pc') (Ls' : Array Slot) (hv : x = x') (hl : storeLocals Ls k.val (.long x') = some Ls') (hr : OGo p e below s n0 Q kc ks (T.setTop (mkF m pc' Ls' St))) : OGo p e below s n0 Q kc ks (T.setTop (mkF m pc Ls (.long x :: St))) := by
  subst hp
  exact OGo.st (fun _ k => XS.lstoreN X.here K.hx rfl (hb K.hby hd) rfl (hv ▸ hl) k) hr
theorem o_astore (X : Stand p l e R s m args below meth c T locs cells slots) (K : OCx p s m meth c Z own nm bytes maxL ret) {k : Nat} {x : Value} (hd : decode bytes pc = .ok (.astore k, 2)) (pc' : Nat) (hp : pc + 2 = pc') (Ls' : Array Slot) (hv : x.isRef = true) (hl : storeLocals Ls k x = some Ls') (hr : OGo p e below s n0 Q kc ks (T.setTop (mkF m pc' Ls' St))) : OGo p e below s n0 Q kc ks (T.setTop (mkF m pc Ls (x :: St))) := by
  subst hp
  exact OGo.st (fun _ k => XS.astore X.here K.hx rfl (hb K.hby hd) rfl hv hl k) hr
theorem o_astoreN (X : Stand p l e R s m args below meth c T locs cells slots) (K : OCx p s m meth c Z own nm bytes maxL ret) {k : Fin 4} {x : Value} (hd : decode bytes pc = .ok (.astore_n k, 1)) (pc' : Nat) (hp : pc + 1 = pc') (Ls' : Array Slot) (hv : x.isRef = true) (hl : storeLocals Ls k.val x = some Ls') (hr : OGo p e below s n0 Q kc ks (T.setTop (mkF m pc' Ls' St))) : OGo p e below s n0 Q kc ks (T.setTop (mkF m pc Ls (x :: St))) := by
  subst hp
  exact OGo.st (fun _ k => XS.astoreN X.here K.hx rfl (hb K.hby hd) rfl hv hl k) hr
theorem o_iinc (X : Stand p l e R s m args below meth c T locs cells slots) (K : OCx p s m meth c Z own nm bytes maxL ret) {k : Nat} {cst : Int} {x x' : Int32} (hd : decode bytes pc = .ok (.iinc k cst, 3)) (pc' : Nat) (hp : pc + 3 = pc') (Ls' : Array Slot) (hl : Ls[k]? = some (.val (.int x))) (hv : x + Int32.ofInt cst = x') (hl' : storeLocals Ls k (.int x') = some Ls') (hr : OGo p e below s n0 Q kc ks (T.setTop (mkF m pc' Ls' St))) : OGo p e below s n0 Q kc ks (T.setTop (mkF m pc Ls St)) := by
  subst hp
  exact OGo.st (fun _ k => XS.iinc X.here K.hx rfl (hb K.hby hd) hl (hv ▸ hl') k) hr
theorem o_iconst (X : Stand p l e R s m args below meth c T locs cells slots) (K : OCx p s m meth c Z own nm bytes maxL ret) {i : Int} (v : Int32) (hd : decode bytes pc = .ok (.iconst i, 1)) (pc' : Nat) (hp : pc + 1 = pc') (hv : Int32.ofInt i = v) (hr : OGo p e below s n0 Q kc ks (T.setTop (mkF m pc' Ls (.int v :: St)))) : OGo p e below s n0 Q kc ks (T.setTop (mkF m pc Ls St)) := by
  subst hp
  exact OGo.st (fun _ k => XS.iconst X.here K.hx rfl (hb K.hby hd) (by rw [hv]; exact k)) hr
theorem o_bipush (X : Stand p l e R s m args below meth c T locs cells slots) (K : OCx p s m meth c Z own nm bytes maxL ret) {i : Int} (v : Int32) (hd : decode bytes pc = .ok (.bipush i, 2)) (pc' : Nat) (hp : pc + 2 = pc') (hv : (Int8.ofInt i).toInt32 = v) (hr : OGo p e below s n0 Q kc ks (T.setTop (mkF m pc' Ls (.int v :: St)))) : OGo p e below s n0 Q kc ks (T.setTop (mkF m pc Ls St)) := by
  subst hp
  exact OGo.st (fun _ k => XS.bipush X.here K.hx rfl (hb K.hby hd) (by rw [hv]; exact k)) hr
theorem o_sipush (X : Stand p l e R s m args below meth c T locs cells slots) (K : OCx p s m meth c Z own nm bytes maxL ret) {i : Int} (v : Int32) (hd : decode bytes pc = .ok (.sipush i, 3)) (pc' : Nat) (hp : pc + 3 = pc') (hv : (Int16.ofInt i).toInt32 = v) (hr : OGo p e below s n0 Q kc ks (T.setTop (mkF m pc' Ls (.int v :: St)))) : OGo p e below s n0 Q kc ks (T.setTop (mkF m pc Ls St)) := by
  subst hp
  exact OGo.st (fun _ k => XS.sipush X.here K.hx rfl (hb K.hby hd) (by rw [hv]; exact k)) hr
theorem o_lconst (X : Stand p l e R s m args below meth c T locs cells slots) (K : OCx p s m meth c Z own nm bytes maxL ret) {i : Fin 2} (v : Int64) (hd : decode bytes pc = .ok (.lconst i, 1)) (pc' : Nat) (hp : pc + 1 = pc') (hv : Int64.ofNat i = v) (hr : OGo p e below s n0 Q kc ks (T.setTop (mkF m pc' Ls (.long v :: St)))) : OGo p e below s n0 Q kc ks (T.setTop (mkF m pc Ls St)) := by
  subst hp
  exact OGo.st (fun _ k => XS.lconst X.here K.hx rfl (hb K.hby hd) (by rw [hv]; exact k)) hr
theorem o_aconst_null (X : Stand p l e R s m args below meth c T locs cells slots) (K : OCx p s m meth c Z own nm bytes maxL ret) (hd : decode bytes pc = .ok (.aconst_null, 1)) (pc' : Nat) (hp : pc + 1 = pc') (hr : OGo p e below s n0 Q kc ks (T.setTop (mkF m pc' Ls (.null :: St)))) : OGo p e below s n0 Q kc ks (T.setTop (mkF m pc Ls St)) := by
  subst hp
  exact OGo.st (fun _ k => XS.aconstNull X.here K.hx rfl (hb K.hby hd) k) hr
theorem o_ldcI (X : Stand p l e R s m args below meth c T locs cells slots) (K : OCx p s m meth c Z own nm bytes maxL ret) {index : Nat} {v : Int32} (hd : decode bytes pc = .ok (.ldc index, 2)) (pc' : Nat) (hp : pc + 2 = pc') (w : (Jvm.Cond.constant own index v).before a0 Z = true) (hr : OGo p e below s n0 Q kc ks (T.setTop (mkF m pc' Ls (.int v :: St)))) : OGo p e below s n0 Q kc ks (T.setTop (mkF m pc Ls St)) := by
  subst hp
  exact OGo.st (fun _ k => Stand.ldcI X K.hx K.hown (mvT K.hZ w) rfl (hb K.hby hd) k) hr
theorem o_ldcWI (X : Stand p l e R s m args below meth c T locs cells slots) (K : OCx p s m meth c Z own nm bytes maxL ret) {index : Nat} {v : Int32} (hd : decode bytes pc = .ok (.ldc_w index, 3)) (pc' : Nat) (hp : pc + 3 = pc') (w : (Jvm.Cond.constant own index v).before a0 Z = true) (hr : OGo p e below s n0 Q kc ks (T.setTop (mkF m pc' Ls (.int v :: St)))) : OGo p e below s n0 Q kc ks (T.setTop (mkF m pc Ls St)) := by
  subst hp
  exact OGo.st (fun _ k => Stand.ldcWI X K.hx K.hown (mvT K.hZ w) rfl (hb K.hby hd) k) hr
theorem o_ldc2J (X : Stand p l e R s m args below meth c T locs cells slots) (K : OCx p s m meth c Z own nm bytes maxL ret) {index : Nat} {v : Int64} (hd : decode bytes pc = .ok (.ldc2_w index, 3)) (pc' : Nat) (hp : pc + 3 = pc') (w : (Jvm.Cond.constantLong own index v).before a0 Z = true) (hr : OGo p e below s n0 Q kc ks (T.setTop (mkF m pc' Ls (.long v :: St)))) : OGo p e below s n0 Q kc ks (T.setTop (mkF m pc Ls St)) := by
  subst hp
  exact OGo.st (fun _ k => Stand.ldc2J X K.hx K.hown (mvT K.hZ w) rfl (hb K.hby hd) k) hr
theorem o_iadd (X : Stand p l e R s m args below meth c T locs cells slots) (K : OCx p s m meth c Z own nm bytes maxL ret) {x y : Int32} (hd : decode bytes pc = .ok (.iadd, 1)) (pc' : Nat) (hp : pc + 1 = pc') (hr : OGo p e below s n0 Q kc ks (T.setTop (mkF m pc' Ls (.int (x + y) :: St)))) : OGo p e below s n0 Q kc ks (T.setTop (mkF m pc Ls (.int y :: .int x :: St))) := by
  subst hp
  exact OGo.st (fun _ k => XS.iadd X.here K.hx rfl (hb K.hby hd) rfl k) hr
theorem o_isub (X : Stand p l e R s m args below meth c T locs cells slots) (K : OCx p s m meth c Z own nm bytes maxL ret) {x y : Int32} (hd : decode bytes pc = .ok (.isub, 1)) (pc' : Nat) (hp : pc + 1 = pc') (hr : OGo p e below s n0 Q kc ks (T.setTop (mkF m pc' Ls (.int (x - y) :: St)))) : OGo p e below s n0 Q kc ks (T.setTop (mkF m pc Ls (.int y :: .int x :: St))) := by
  subst hp
  exact OGo.st (fun _ k => XS.isub X.here K.hx rfl (hb K.hby hd) rfl k) hr
theorem o_imul (X : Stand p l e R s m args below meth c T locs cells slots) (K : OCx p s m meth c Z own nm bytes maxL ret) {x y : Int32} (hd : decode bytes pc = .ok (.imul, 1)) (pc' : Nat) (hp : pc + 1 = pc') (hr : OGo p e below s n0 Q kc ks (T.setTop (mkF m pc' Ls (.int (x * y) :: St)))) : OGo p e below s n0 Q kc ks (T.setTop (mkF m pc Ls (.int y :: .int x :: St))) := by
  subst hp
  exact OGo.st (fun _ k => XS.imul X.here K.hx rfl (hb K.hby hd) rfl k) hr
theorem o_iand (X : Stand p l e R s m args below meth c T locs cells slots) (K : OCx p s m meth c Z own nm bytes maxL ret) {x y : Int32} (hd : decode bytes pc = .ok (.iand, 1)) (pc' : Nat) (hp : pc + 1 = pc') (hr : OGo p e below s n0 Q kc ks (T.setTop (mkF m pc' Ls (.int (x &&& y) :: St)))) : OGo p e below s n0 Q kc ks (T.setTop (mkF m pc Ls (.int y :: .int x :: St))) := by
  subst hp
  exact OGo.st (fun _ k => XS.iand X.here K.hx rfl (hb K.hby hd) rfl k) hr
theorem o_ior (X : Stand p l e R s m args below meth c T locs cells slots) (K : OCx p s m meth c Z own nm bytes maxL ret) {x y : Int32} (hd : decode bytes pc = .ok (.ior, 1)) (pc' : Nat) (hp : pc + 1 = pc') (hr : OGo p e below s n0 Q kc ks (T.setTop (mkF m pc' Ls (.int (x ||| y) :: St)))) : OGo p e below s n0 Q kc ks (T.setTop (mkF m pc Ls (.int y :: .int x :: St))) := by
  subst hp
  exact OGo.st (fun _ k => XS.ior X.here K.hx rfl (hb K.hby hd) rfl k) hr
theorem o_ixor (X : Stand p l e R s m args below meth c T locs cells slots) (K : OCx p s m meth c Z own nm bytes maxL ret) {x y : Int32} (hd : decode bytes pc = .ok (.ixor, 1)) (pc' : Nat) (hp : pc + 1 = pc') (hr : OGo p e below s n0 Q kc ks (T.setTop (mkF m pc' Ls (.int (x ^^^ y) :: St)))) : OGo p e below s n0 Q kc ks (T.setTop (mkF m pc Ls (.int y :: .int x :: St))) := by
  subst hp
  exact OGo.st (fun _ k => XS.ixor X.here K.hx rfl (hb K.hby hd) rfl k) hr
theorem o_ishl (X : Stand p l e R s m args below meth c T locs cells slots) (K : OCx p s m meth c Z own nm bytes maxL ret) {x y : Int32} (hd : decode bytes pc = .ok (.ishl, 1)) (pc' : Nat) (hp : pc + 1 = pc') (hr : OGo p e below s n0 Q kc ks (T.setTop (mkF m pc' Ls (.int (x <<< (y &&& 31)) :: St)))) : OGo p e below s n0 Q kc ks (T.setTop (mkF m pc Ls (.int y :: .int x :: St))) := by
  subst hp
  exact OGo.st (fun _ k => XS.ishl X.here K.hx rfl (hb K.hby hd) rfl k) hr
theorem o_ishr (X : Stand p l e R s m args below meth c T locs cells slots) (K : OCx p s m meth c Z own nm bytes maxL ret) {x y : Int32} (hd : decode bytes pc = .ok (.ishr, 1)) (pc' : Nat) (hp : pc + 1 = pc') (hr : OGo p e below s n0 Q kc ks (T.setTop (mkF m pc' Ls (.int (x >>> (y &&& 31)) :: St)))) : OGo p e below s n0 Q kc ks (T.setTop (mkF m pc Ls (.int y :: .int x :: St))) := by
  subst hp
  exact OGo.st (fun _ k => XS.ishr X.here K.hx rfl (hb K.hby hd) rfl k) hr
theorem o_iushr (X : Stand p l e R s m args below meth c T locs cells slots) (K : OCx p s m meth c Z own nm bytes maxL ret) {x y : Int32} (hd : decode bytes pc = .ok (.iushr, 1)) (pc' : Nat) (hp : pc + 1 = pc') (hr : OGo p e below s n0 Q kc ks (T.setTop (mkF m pc' Ls (.int ((x.toUInt32 >>> (y &&& 31).toUInt32).toInt32) :: St)))) : OGo p e below s n0 Q kc ks (T.setTop (mkF m pc Ls (.int y :: .int x :: St))) := by
  subst hp
  exact OGo.st (fun _ k => XS.iushr X.here K.hx rfl (hb K.hby hd) rfl k) hr
theorem o_ladd (X : Stand p l e R s m args below meth c T locs cells slots) (K : OCx p s m meth c Z own nm bytes maxL ret) {x y : Int64} (hd : decode bytes pc = .ok (.ladd, 1)) (pc' : Nat) (hp : pc + 1 = pc') (hr : OGo p e below s n0 Q kc ks (T.setTop (mkF m pc' Ls (.long (x + y) :: St)))) : OGo p e below s n0 Q kc ks (T.setTop (mkF m pc Ls (.long y :: .long x :: St))) := by
  subst hp
  exact OGo.st (fun _ k => XS.ladd X.here K.hx rfl (hb K.hby hd) rfl k) hr
theorem o_lsub (X : Stand p l e R s m args below meth c T locs cells slots) (K : OCx p s m meth c Z own nm bytes maxL ret) {x y : Int64} (hd : decode bytes pc = .ok (.lsub, 1)) (pc' : Nat) (hp : pc + 1 = pc') (hr : OGo p e below s n0 Q kc ks (T.setTop (mkF m pc' Ls (.long (x - y) :: St)))) : OGo p e below s n0 Q kc ks (T.setTop (mkF m pc Ls (.long y :: .long x :: St))) := by
  subst hp
  exact OGo.st (fun _ k => XS.lsub X.here K.hx rfl (hb K.hby hd) rfl k) hr
theorem o_lmul (X : Stand p l e R s m args below meth c T locs cells slots) (K : OCx p s m meth c Z own nm bytes maxL ret) {x y : Int64} (hd : decode bytes pc = .ok (.lmul, 1)) (pc' : Nat) (hp : pc + 1 = pc') (hr : OGo p e below s n0 Q kc ks (T.setTop (mkF m pc' Ls (.long (x * y) :: St)))) : OGo p e below s n0 Q kc ks (T.setTop (mkF m pc Ls (.long y :: .long x :: St))) := by
  subst hp
  exact OGo.st (fun _ k => XS.lmul X.here K.hx rfl (hb K.hby hd) rfl k) hr
theorem o_land (X : Stand p l e R s m args below meth c T locs cells slots) (K : OCx p s m meth c Z own nm bytes maxL ret) {x y : Int64} (hd : decode bytes pc = .ok (.land, 1)) (pc' : Nat) (hp : pc + 1 = pc') (hr : OGo p e below s n0 Q kc ks (T.setTop (mkF m pc' Ls (.long (x &&& y) :: St)))) : OGo p e below s n0 Q kc ks (T.setTop (mkF m pc Ls (.long y :: .long x :: St))) := by
  subst hp
  exact OGo.st (fun _ k => XS.land X.here K.hx rfl (hb K.hby hd) rfl k) hr
theorem o_lor (X : Stand p l e R s m args below meth c T locs cells slots) (K : OCx p s m meth c Z own nm bytes maxL ret) {x y : Int64} (hd : decode bytes pc = .ok (.lor, 1)) (pc' : Nat) (hp : pc + 1 = pc') (hr : OGo p e below s n0 Q kc ks (T.setTop (mkF m pc' Ls (.long (x ||| y) :: St)))) : OGo p e below s n0 Q kc ks (T.setTop (mkF m pc Ls (.long y :: .long x :: St))) := by
  subst hp
  exact OGo.st (fun _ k => XS.lor X.here K.hx rfl (hb K.hby hd) rfl k) hr
theorem o_lxor (X : Stand p l e R s m args below meth c T locs cells slots) (K : OCx p s m meth c Z own nm bytes maxL ret) {x y : Int64} (hd : decode bytes pc = .ok (.lxor, 1)) (pc' : Nat) (hp : pc + 1 = pc') (hr : OGo p e below s n0 Q kc ks (T.setTop (mkF m pc' Ls (.long (x ^^^ y) :: St)))) : OGo p e below s n0 Q kc ks (T.setTop (mkF m pc Ls (.long y :: .long x :: St))) := by
  subst hp
  exact OGo.st (fun _ k => XS.lxor X.here K.hx rfl (hb K.hby hd) rfl k) hr
theorem o_lshl (X : Stand p l e R s m args below meth c T locs cells slots) (K : OCx p s m meth c Z own nm bytes maxL ret) {x : Int64} {y : Int32} (hd : decode bytes pc = .ok (.lshl, 1)) (pc' : Nat) (hp : pc + 1 = pc') (hr : OGo p e below s n0 Q kc ks (T.setTop (mkF m pc' Ls (.long (x <<< (y &&& 0x3f).toInt64) :: St)))) : OGo p e below s n0 Q kc ks (T.setTop (mkF m pc Ls (.int y :: .long x :: St))) := by
  subst hp
  exact OGo.st (fun _ k => XS.lshl X.here K.hx rfl (hb K.hby hd) rfl k) hr
theorem o_lshr (X : Stand p l e R s m args below meth c T locs cells slots) (K : OCx p s m meth c Z own nm bytes maxL ret) {x : Int64} {y : Int32} (hd : decode bytes pc = .ok (.lshr, 1)) (pc' : Nat) (hp : pc + 1 = pc') (hr : OGo p e below s n0 Q kc ks (T.setTop (mkF m pc' Ls (.long (x >>> (y &&& 0x3f).toInt64) :: St)))) : OGo p e below s n0 Q kc ks (T.setTop (mkF m pc Ls (.int y :: .long x :: St))) := by
  subst hp
  exact OGo.st (fun _ k => XS.lshr X.here K.hx rfl (hb K.hby hd) rfl k) hr
theorem o_lushr (X : Stand p l e R s m args below meth c T locs cells slots) (K : OCx p s m meth c Z own nm bytes maxL ret) {x : Int64} {y : Int32} (hd : decode bytes pc = .ok (.lushr, 1)) (pc' : Nat) (hp : pc + 1 = pc') (hr : OGo p e below s n0 Q kc ks (T.setTop (mkF m pc' Ls (.long ((x.toUInt64 >>> (y &&& 0x3f).toInt64.toUInt64).toInt64) :: St)))) : OGo p e below s n0 Q kc ks (T.setTop (mkF m pc Ls (.int y :: .long x :: St))) := by
  subst hp
  exact OGo.st (fun _ k => XS.lushr X.here K.hx rfl (hb K.hby hd) rfl k) hr
theorem o_ldiv (X : Stand p l e R s m args below meth c T locs cells slots) (K : OCx p s m meth c Z own nm bytes maxL ret) {x y : Int64} (hd : decode bytes pc = .ok (.ldiv, 1)) (pc' : Nat) (hp : pc + 1 = pc') (hy : y ≠ 0) (hr : OGo p e below s n0 Q kc ks (T.setTop (mkF m pc' Ls (.long (x / y) :: St)))) : OGo p e below s n0 Q kc ks (T.setTop (mkF m pc Ls (.long y :: .long x :: St))) := by
  subst hp
  exact OGo.st (fun _ k => XS.ldiv X.here K.hx rfl (hb K.hby hd) rfl hy k) hr
theorem o_idiv (X : Stand p l e R s m args below meth c T locs cells slots) (K : OCx p s m meth c Z own nm bytes maxL ret) {x y : Int32} (hd : decode bytes pc = .ok (.idiv, 1)) (pc' : Nat) (hp : pc + 1 = pc') (hy : y ≠ 0) (hr : OGo p e below s n0 Q kc ks (T.setTop (mkF m pc' Ls (.int (x / y) :: St)))) : OGo p e below s n0 Q kc ks (T.setTop (mkF m pc Ls (.int y :: .int x :: St))) := by
  subst hp
  exact OGo.st (fun _ k => XS.idiv X.here K.hx rfl (hb K.hby hd) rfl hy k) hr
theorem o_irem (X : Stand p l e R s m args below meth c T locs cells slots) (K : OCx p s m meth c Z own nm bytes maxL ret) {x y : Int32} (hd : decode bytes pc = .ok (.irem, 1)) (pc' : Nat) (hp : pc + 1 = pc') (hy : y ≠ 0) (hr : OGo p e below s n0 Q kc ks (T.setTop (mkF m pc' Ls (.int (x % y) :: St)))) : OGo p e below s n0 Q kc ks (T.setTop (mkF m pc Ls (.int y :: .int x :: St))) := by
  subst hp
  exact OGo.st (fun _ k => iremM X K.hx rfl (hb K.hby hd) rfl hy k) hr
theorem o_ineg (X : Stand p l e R s m args below meth c T locs cells slots) (K : OCx p s m meth c Z own nm bytes maxL ret) {x : Int32} (hd : decode bytes pc = .ok (.ineg, 1)) (pc' : Nat) (hp : pc + 1 = pc') (hr : OGo p e below s n0 Q kc ks (T.setTop (mkF m pc' Ls (.int (-x) :: St)))) : OGo p e below s n0 Q kc ks (T.setTop (mkF m pc Ls (.int x :: St))) := by
  subst hp
  exact OGo.st (fun _ k => XS.ineg X.here K.hx rfl (hb K.hby hd) rfl k) hr
theorem o_lneg (X : Stand p l e R s m args below meth c T locs cells slots) (K : OCx p s m meth c Z own nm bytes maxL ret) {x : Int64} (hd : decode bytes pc = .ok (.lneg, 1)) (pc' : Nat) (hp : pc + 1 = pc') (hr : OGo p e below s n0 Q kc ks (T.setTop (mkF m pc' Ls (.long (-x) :: St)))) : OGo p e below s n0 Q kc ks (T.setTop (mkF m pc Ls (.long x :: St))) := by
  subst hp
  exact OGo.st (fun _ k => XS.lneg X.here K.hx rfl (hb K.hby hd) rfl k) hr
theorem o_i2b (X : Stand p l e R s m args below meth c T locs cells slots) (K : OCx p s m meth c Z own nm bytes maxL ret) {x : Int32} (hd : decode bytes pc = .ok (.i2b, 1)) (pc' : Nat) (hp : pc + 1 = pc') (hr : OGo p e below s n0 Q kc ks (T.setTop (mkF m pc' Ls (.int (x.toInt8.toInt32) :: St)))) : OGo p e below s n0 Q kc ks (T.setTop (mkF m pc Ls (.int x :: St))) := by
  subst hp
  exact OGo.st (fun _ k => XS.i2b X.here K.hx rfl (hb K.hby hd) rfl k) hr
theorem o_i2c (X : Stand p l e R s m args below meth c T locs cells slots) (K : OCx p s m meth c Z own nm bytes maxL ret) {x : Int32} (hd : decode bytes pc = .ok (.i2c, 1)) (pc' : Nat) (hp : pc + 1 = pc') (hr : OGo p e below s n0 Q kc ks (T.setTop (mkF m pc' Ls (.int (x.toUInt32.toUInt16.toUInt32.toInt32) :: St)))) : OGo p e below s n0 Q kc ks (T.setTop (mkF m pc Ls (.int x :: St))) := by
  subst hp
  exact OGo.st (fun _ k => XS.i2c X.here K.hx rfl (hb K.hby hd) rfl k) hr
theorem o_i2s (X : Stand p l e R s m args below meth c T locs cells slots) (K : OCx p s m meth c Z own nm bytes maxL ret) {x : Int32} (hd : decode bytes pc = .ok (.i2s, 1)) (pc' : Nat) (hp : pc + 1 = pc') (hr : OGo p e below s n0 Q kc ks (T.setTop (mkF m pc' Ls (.int (x.toInt16.toInt32) :: St)))) : OGo p e below s n0 Q kc ks (T.setTop (mkF m pc Ls (.int x :: St))) := by
  subst hp
  exact OGo.st (fun _ k => XS.i2s X.here K.hx rfl (hb K.hby hd) rfl k) hr
theorem o_i2l (X : Stand p l e R s m args below meth c T locs cells slots) (K : OCx p s m meth c Z own nm bytes maxL ret) {x : Int32} (hd : decode bytes pc = .ok (.i2l, 1)) (pc' : Nat) (hp : pc + 1 = pc') (hr : OGo p e below s n0 Q kc ks (T.setTop (mkF m pc' Ls (.long (x.toInt64) :: St)))) : OGo p e below s n0 Q kc ks (T.setTop (mkF m pc Ls (.int x :: St))) := by
  subst hp
  exact OGo.st (fun _ k => XS.i2l X.here K.hx rfl (hb K.hby hd) rfl k) hr
theorem o_l2i (X : Stand p l e R s m args below meth c T locs cells slots) (K : OCx p s m meth c Z own nm bytes maxL ret) {x : Int64} (hd : decode bytes pc = .ok (.l2i, 1)) (pc' : Nat) (hp : pc + 1 = pc') (hr : OGo p e below s n0 Q kc ks (T.setTop (mkF m pc' Ls (.int (x.toInt32) :: St)))) : OGo p e below s n0 Q kc ks (T.setTop (mkF m pc Ls (.long x :: St))) := by
  subst hp
  exact OGo.st (fun _ k => XS.l2i X.here K.hx rfl (hb K.hby hd) rfl k) hr
theorem o_lcmp (X : Stand p l e R s m args below meth c T locs cells slots) (K : OCx p s m meth c Z own nm bytes maxL ret) {x y : Int64} (hd : decode bytes pc = .ok (.lcmp, 1)) (pc' : Nat) (hp : pc + 1 = pc') (hr : OGo p e below s n0 Q kc ks (T.setTop (mkF m pc' Ls (.int (lcmpW x y) :: St)))) : OGo p e below s n0 Q kc ks (T.setTop (mkF m pc Ls (.long y :: .long x :: St))) := by
  subst hp
  exact OGo.st (fun _ k => XS.lcmp X.here K.hx rfl (hb K.hby hd) rfl k) hr
theorem o_dup (X : Stand p l e R s m args below meth c T locs cells slots) (K : OCx p s m meth c Z own nm bytes maxL ret) {x : Value} (hd : decode bytes pc = .ok (.dup, 1)) (pc' : Nat) (hp : pc + 1 = pc') (hc : x.category = 1) (hr : OGo p e below s n0 Q kc ks (T.setTop (mkF m pc' Ls (x :: x :: St)))) : OGo p e below s n0 Q kc ks (T.setTop (mkF m pc Ls (x :: St))) := by
  subst hp
  exact OGo.st (fun _ k => XS.dup X.here K.hx rfl (hb K.hby hd) rfl hc k) hr
theorem o_pop (X : Stand p l e R s m args below meth c T locs cells slots) (K : OCx p s m meth c Z own nm bytes maxL ret) {x : Value} (hd : decode bytes pc = .ok (.pop, 1)) (pc' : Nat) (hp : pc + 1 = pc') (hc : x.category = 1) (hr : OGo p e below s n0 Q kc ks (T.setTop (mkF m pc' Ls St))) : OGo p e below s n0 Q kc ks (T.setTop (mkF m pc Ls (x :: St))) := by
  subst hp
  exact OGo.st (fun _ k => XS.pop X.here K.hx rfl (hb K.hby hd) rfl hc k) hr
theorem o_dupX1 (X : Stand p l e R s m args below meth c T locs cells slots) (K : OCx p s m meth c Z own nm bytes maxL ret) {x y : Value} (hd : decode bytes pc = .ok (.dup_x1, 1)) (pc' : Nat) (hp : pc + 1 = pc') (hc : x.category = 1) (hc' : y.category = 1) (hr : OGo p e below s n0 Q kc ks (T.setTop (mkF m pc' Ls (x :: y :: x :: St)))) : OGo p e below s n0 Q kc ks (T.setTop (mkF m pc Ls (x :: y :: St))) := by
  subst hp
  exact OGo.st (fun _ k => XS.dupX1 X.here K.hx rfl (hb K.hby hd) rfl hc hc' k) hr
theorem o_dup2 (X : Stand p l e R s m args below meth c T locs cells slots) (K : OCx p s m meth c Z own nm bytes maxL ret) {x y : Value} (hd : decode bytes pc = .ok (.dup2, 1)) (pc' : Nat) (hp : pc + 1 = pc') (hc : x.category = 1) (hc' : y.category = 1) (hr : OGo p e below s n0 Q kc ks (T.setTop (mkF m pc' Ls (x :: y :: x :: y :: St)))) : OGo p e below s n0 Q kc ks (T.setTop (mkF m pc Ls (x :: y :: St))) := by
  subst hp
  exact OGo.st (fun _ k => Jvm.Free.XT.dup2 X.here K.hx rfl (hb K.hby hd) rfl hc hc' k) hr
theorem o_dup2L (X : Stand p l e R s m args below meth c T locs cells slots) (K : OCx p s m meth c Z own nm bytes maxL ret) {x : Int64} (hd : decode bytes pc = .ok (.dup2, 1)) (pc' : Nat) (hp : pc + 1 = pc') (hr : OGo p e below s n0 Q kc ks (T.setTop (mkF m pc' Ls (.long x :: .long x :: St)))) : OGo p e below s n0 Q kc ks (T.setTop (mkF m pc Ls (.long x :: St))) := by
  subst hp
  exact OGo.st (fun _ k => Jvm.Free.XT.dup2L X.here K.hx rfl (hb K.hby hd) rfl k) hr
theorem o_goto (X : Stand p l e R s m args below meth c T locs cells slots) (K : OCx p s m meth c Z own nm bytes maxL ret) {o : Int} (hd : decode bytes pc = .ok (.goto o, 3)) (pc' : Nat) (ho : 0 ≤ (pc : Int) + o) (hp : ((pc : Int) + o).toNat = pc') (hr : OGo p e below s n0 Q kc ks (T.setTop (mkF m pc' Ls St))) : OGo p e below s n0 Q kc ks (T.setTop (mkF m pc Ls St)) :=
  OGo.st (fun _ k => XS.goto X.here K.hx rfl (pc0 := pc) rfl (hb K.hby hd) ho hp k) hr
theorem o_icmp_lt_t (X : Stand p l e R s m args below meth c T locs cells slots) (K : OCx p s m meth c Z own nm bytes maxL ret) {x y : Int32} {o : Int} (hd : decode bytes pc = .ok (.if_icmp .lt o, 3)) (pt : Nat) (ho : 0 ≤ (pc : Int) + o) (hp : ((pc : Int) + o).toNat = pt) (q : x.toInt < y.toInt) (hr : OGo p e below s n0 Q kc ks (T.setTop (mkF m pt Ls St))) : OGo p e below s n0 Q kc ks (T.setTop (mkF m pc Ls (.int y :: .int x :: St))) :=
  OGo.st (fun _ k => XS.icmpYes X.here K.hx rfl (pc0 := pc) rfl (hb K.hby hd) rfl ((tlt (Int32.lt_iff_toInt_lt.mpr q)).1) ho hp k) hr
theorem o_icmp_lt_f (X : Stand p l e R s m args below meth c T locs cells slots) (K : OCx p s m meth c Z own nm bytes maxL ret) {x y : Int32} {o : Int} (hd : decode bytes pc = .ok (.if_icmp .lt o, 3)) (pc' : Nat) (hp : pc + 3 = pc') (q : y.toInt ≤ x.toInt) (hr : OGo p e below s n0 Q kc ks (T.setTop (mkF m pc' Ls St))) : OGo p e below s n0 Q kc ks (T.setTop (mkF m pc Ls (.int y :: .int x :: St))) := by
  subst hp
  exact OGo.st (fun _ k => XS.icmpNo X.here K.hx rfl (hb K.hby hd) rfl ((flt (fun r => Int.not_lt.mpr q (Int32.lt_iff_toInt_lt.mp r))).1) k) hr
theorem o_icmp_lt (X : Stand p l e R s m args below meth c T locs cells slots) (K : OCx p s m meth c Z own nm bytes maxL ret) {x y : Int32} {o : Int} (hd : decode bytes pc = .ok (.if_icmp .lt o, 3)) (pt : Nat) (ho : 0 ≤ (pc : Int) + o) (hp : ((pc : Int) + o).toNat = pt) (pc' : Nat) (hp' : pc + 3 = pc') (h1 : x.toInt < y.toInt → OGo p e below s n0 Q kc ks (T.setTop (mkF m pt Ls St))) (h2 : y.toInt ≤ x.toInt → OGo p e below s n0 Q kc ks (T.setTop (mkF m pc' Ls St))) : OGo p e below s n0 Q kc ks (T.setTop (mkF m pc Ls (.int y :: .int x :: St))) :=
  (Classical.em (x.toInt < y.toInt)).elim (fun q => o_icmp_lt_t X K hd pt ho hp q (h1 q)) (fun q => o_icmp_lt_f X K hd pc' hp' (Int.not_lt.mp q) (h2 (Int.not_lt.mp q)))
theorem o_if_lt_t (X : Stand p l e R s m args below meth c T locs cells slots) (K : OCx p s m meth c Z own nm bytes maxL ret) {x : Int32} {o : Int} (hd : decode bytes pc = .ok (.ifCond .lt o, 3)) (pt : Nat) (ho : 0 ≤ (pc : Int) + o) (hp : ((pc : Int) + o).toNat = pt) (q : x.toInt < 0) (hr : OGo p e below s n0 Q kc ks (T.setTop (mkF m pt Ls St))) : OGo p e below s n0 Q kc ks (T.setTop (mkF m pc Ls (.int x :: St))) :=
  OGo.st (fun _ k => XS.ifYes X.here K.hx rfl (pc0 := pc) rfl (hb K.hby hd) rfl ((if0 _ _).trans (tlt (Int32.lt_iff_toInt_lt.mpr (show x.toInt < (0 : Int32).toInt from q))).1) ho hp k) hr
theorem o_if_lt_f (X : Stand p l e R s m args below meth c T locs cells slots) (K : OCx p s m meth c Z own nm bytes maxL ret) {x : Int32} {o : Int} (hd : decode bytes pc = .ok (.ifCond .lt o, 3)) (pc' : Nat) (hp : pc + 3 = pc') (q : 0 ≤ x.toInt) (hr : OGo p e below s n0 Q kc ks (T.setTop (mkF m pc' Ls St))) : OGo p e below s n0 Q kc ks (T.setTop (mkF m pc Ls (.int x :: St))) := by
  subst hp
  exact OGo.st (fun _ k => XS.ifNo X.here K.hx rfl (hb K.hby hd) rfl ((if0 _ _).trans (flt (fun r => Int.not_lt.mpr (show (0 : Int32).toInt ≤ x.toInt from q) (Int32.lt_iff_toInt_lt.mp r))).1) k) hr
theorem o_if_lt (X : Stand p l e R s m args below meth c T locs cells slots) (K : OCx p s m meth c Z own nm bytes maxL ret) {x : Int32} {o : Int} (hd : decode bytes pc = .ok (.ifCond .lt o, 3)) (pt : Nat) (ho : 0 ≤ (pc : Int) + o) (hp : ((pc : Int) + o).toNat = pt) (pc' : Nat) (hp' : pc + 3 = pc') (h1 : x.toInt < 0 → OGo p e below s n0 Q kc ks (T.setTop (mkF m pt Ls St))) (h2 : 0 ≤ x.toInt → OGo p e below s n0 Q kc ks (T.setTop (mkF m pc' Ls St))) : OGo p e below s n0 Q kc ks (T.setTop (mkF m pc Ls (.int x :: St))) :=
  (Classical.em (x.toInt < 0)).elim (fun q => o_if_lt_t X K hd pt ho hp q (h1 q)) (fun q => o_if_lt_f X K hd pc' hp' (Int.not_lt.mp q) (h2 (Int.not_lt.mp q)))
theorem o_icmp_ge_t (X : Stand p l e R s m args below meth c T locs cells slots) (K : OCx p s m meth c Z own nm bytes maxL ret) {x y : Int32} {o : Int} (hd : decode bytes pc = .ok (.if_icmp .ge o, 3)) (pt : Nat) (ho : 0 ≤ (pc : Int) + o) (hp : ((pc : Int) + o).toNat = pt) (q : y.toInt ≤ x.toInt) (hr : OGo p e below s n0 Q kc ks (T.setTop (mkF m pt Ls St))) : OGo p e below s n0 Q kc ks (T.setTop (mkF m pc Ls (.int y :: .int x :: St))) :=
  OGo.st (fun _ k => XS.icmpYes X.here K.hx rfl (pc0 := pc) rfl (hb K.hby hd) rfl ((flt (fun r => Int.not_lt.mpr q (Int32.lt_iff_toInt_lt.mp r))).2.1) ho hp k) hr
theorem o_icmp_ge_f (X : Stand p l e R s m args below meth c T locs cells slots) (K : OCx p s m meth c Z own nm bytes maxL ret) {x y : Int32} {o : Int} (hd : decode bytes pc = .ok (.if_icmp .ge o, 3)) (pc' : Nat) (hp : pc + 3 = pc') (q : x.toInt < y.toInt) (hr : OGo p e below s n0 Q kc ks (T.setTop (mkF m pc' Ls St))) : OGo p e below s n0 Q kc ks (T.setTop (mkF m pc Ls (.int y :: .int x :: St))) := by
  subst hp
  exact OGo.st (fun _ k => XS.icmpNo X.here K.hx rfl (hb K.hby hd) rfl ((tlt (Int32.lt_iff_toInt_lt.mpr q)).2.1) k) hr
theorem o_icmp_ge (X : Stand p l e R s m args below meth c T locs cells slots) (K : OCx p s m meth c Z own nm bytes maxL ret) {x y : Int32} {o : Int} (hd : decode bytes pc = .ok (.if_icmp .ge o, 3)) (pt : Nat) (ho : 0 ≤ (pc : Int) + o) (hp : ((pc : Int) + o).toNat = pt) (pc' : Nat) (hp' : pc + 3 = pc') (h1 : y.toInt ≤ x.toInt → OGo p e below s n0 Q kc ks (T.setTop (mkF m pt Ls St))) (h2 : x.toInt < y.toInt → OGo p e below s n0 Q kc ks (T.setTop (mkF m pc' Ls St))) : OGo p e below s n0 Q kc ks (T.setTop (mkF m pc Ls (.int y :: .int x :: St))) :=
  (Classical.em (y.toInt ≤ x.toInt)).elim (fun q => o_icmp_ge_t X K hd pt ho hp q (h1 q)) (fun q => o_icmp_ge_f X K hd pc' hp' (Int.not_le.mp q) (h2 (Int.not_le.mp q)))
theorem o_if_ge_t (X : Stand p l e R s m args below meth c T locs cells slots) (K : OCx p s m meth c Z own nm bytes maxL ret) {x : Int32} {o : Int} (hd : decode bytes pc = .ok (.ifCond .ge o, 3)) (pt : Nat) (ho : 0 ≤ (pc : Int) + o) (hp : ((pc : Int) + o).toNat = pt) (q : 0 ≤ x.toInt) (hr : OGo p e below s n0 Q kc ks (T.setTop (mkF m pt Ls St))) : OGo p e below s n0 Q kc ks (T.setTop (mkF m pc Ls (.int x :: St))) :=
  OGo.st (fun _ k => XS.ifYes X.here K.hx rfl (pc0 := pc) rfl (hb K.hby hd) rfl ((if0 _ _).trans (flt (fun r => Int.not_lt.mpr (show (0 : Int32).toInt ≤ x.toInt from q) (Int32.lt_iff_toInt_lt.mp r))).2.1) ho hp k) hr
theorem o_if_ge_f (X : Stand p l e R s m args below meth c T locs cells slots) (K : OCx p s m meth c Z own nm bytes maxL ret) {x : Int32} {o : Int} (hd : decode bytes pc = .ok (.ifCond .ge o, 3)) (pc' : Nat) (hp : pc + 3 = pc') (q : x.toInt < 0) (hr : OGo p e below s n0 Q kc ks (T.setTop (mkF m pc' Ls St))) : OGo p e below s n0 Q kc ks (T.setTop (mkF m pc Ls (.int x :: St))) := by
  subst hp
  exact OGo.st (fun _ k => XS.ifNo X.here K.hx rfl (hb K.hby hd) rfl ((if0 _ _).trans (tlt (Int32.lt_iff_toInt_lt.mpr (show x.toInt < (0 : Int32).toInt from q))).2.1) k) hr
theorem o_if_ge (X : Stand p l e R s m args below meth c T locs cells slots) (K : OCx p s m meth c Z own nm bytes maxL ret) {x : Int32} {o : Int} (hd : decode bytes pc = .ok (.ifCond .ge o, 3)) (pt : Nat) (ho : 0 ≤ (pc : Int) + o) (hp : ((pc : Int) + o).toNat = pt) (pc' : Nat) (hp' : pc + 3 = pc') (h1 : 0 ≤ x.toInt → OGo p e below s n0 Q kc ks (T.setTop (mkF m pt Ls St))) (h2 : x.toInt < 0 → OGo p e below s n0 Q kc ks (T.setTop (mkF m pc' Ls St))) : OGo p e below s n0 Q kc ks (T.setTop (mkF m pc Ls (.int x :: St))) :=
  (Classical.em (0 ≤ x.toInt)).elim (fun q => o_if_ge_t X K hd pt ho hp q (h1 q)) (fun q => o_if_ge_f X K hd pc' hp' (Int.not_le.mp q) (h2 (Int.not_le.mp q)))
theorem o_icmp_gt_t (X : Stand p l e R s m args below meth c T locs cells slots) (K : OCx p s m meth c Z own nm bytes maxL ret) {x y : Int32} {o : Int} (hd : decode bytes pc = .ok (.if_icmp .gt o, 3)) (pt : Nat) (ho : 0 ≤ (pc : Int) + o) (hp : ((pc : Int) + o).toNat = pt) (q : y.toInt < x.toInt) (hr : OGo p e below s n0 Q kc ks (T.setTop (mkF m pt Ls St))) : OGo p e below s n0 Q kc ks (T.setTop (mkF m pc Ls (.int y :: .int x :: St))) :=
  OGo.st (fun _ k => XS.icmpYes X.here K.hx rfl (pc0 := pc) rfl (hb K.hby hd) rfl ((tlt (Int32.lt_iff_toInt_lt.mpr q)).2.2.1) ho hp k) hr
theorem o_icmp_gt_f (X : Stand p l e R s m args below meth c T locs cells slots) (K : OCx p s m meth c Z own nm bytes maxL ret) {x y : Int32} {o : Int} (hd : decode bytes pc = .ok (.if_icmp .gt o, 3)) (pc' : Nat) (hp : pc + 3 = pc') (q : x.toInt ≤ y.toInt) (hr : OGo p e below s n0 Q kc ks (T.setTop (mkF m pc' Ls St))) : OGo p e below s n0 Q kc ks (T.setTop (mkF m pc Ls (.int y :: .int x :: St))) := by
  subst hp
  exact OGo.st (fun _ k => XS.icmpNo X.here K.hx rfl (hb K.hby hd) rfl ((flt (fun r => Int.not_lt.mpr q (Int32.lt_iff_toInt_lt.mp r))).2.2.1) k) hr
theorem o_icmp_gt (X : Stand p l e R s m args below meth c T locs cells slots) (K : OCx p s m meth c Z own nm bytes maxL ret) {x y : Int32} {o : Int} (hd : decode bytes pc = .ok (.if_icmp .gt o, 3)) (pt : Nat) (ho : 0 ≤ (pc : Int) + o) (hp : ((pc : Int) + o).toNat = pt) (pc' : Nat) (hp' : pc + 3 = pc') (h1 : y.toInt < x.toInt → OGo p e below s n0 Q kc ks (T.setTop (mkF m pt Ls St))) (h2 : x.toInt ≤ y.toInt → OGo p e below s n0 Q kc ks (T.setTop (mkF m pc' Ls St))) : OGo p e below s n0 Q kc ks (T.setTop (mkF m pc Ls (.int y :: .int x :: St))) :=
  (Classical.em (y.toInt < x.toInt)).elim (fun q => o_icmp_gt_t X K hd pt ho hp q (h1 q)) (fun q => o_icmp_gt_f X K hd pc' hp' (Int.not_lt.mp q) (h2 (Int.not_lt.mp q)))
theorem o_if_gt_t (X : Stand p l e R s m args below meth c T locs cells slots) (K : OCx p s m meth c Z own nm bytes maxL ret) {x : Int32} {o : Int} (hd : decode bytes pc = .ok (.ifCond .gt o, 3)) (pt : Nat) (ho : 0 ≤ (pc : Int) + o) (hp : ((pc : Int) + o).toNat = pt) (q : 0 < x.toInt) (hr : OGo p e below s n0 Q kc ks (T.setTop (mkF m pt Ls St))) : OGo p e below s n0 Q kc ks (T.setTop (mkF m pc Ls (.int x :: St))) :=
  OGo.st (fun _ k => XS.ifYes X.here K.hx rfl (pc0 := pc) rfl (hb K.hby hd) rfl ((if0 _ _).trans (tlt (Int32.lt_iff_toInt_lt.mpr (show (0 : Int32).toInt < x.toInt from q))).2.2.1) ho hp k) hr
theorem o_if_gt_f (X : Stand p l e R s m args below meth c T locs cells slots) (K : OCx p s m meth c Z own nm bytes maxL ret) {x : Int32} {o : Int} (hd : decode bytes pc = .ok (.ifCond .gt o, 3)) (pc' : Nat) (hp : pc + 3 = pc') (q : x.toInt ≤ 0) (hr : OGo p e below s n0 Q kc ks (T.setTop (mkF m pc' Ls St))) : OGo p e below s n0 Q kc ks (T.setTop (mkF m pc Ls (.int x :: St))) := by
  subst hp
  exact OGo.st (fun _ k => XS.ifNo X.here K.hx rfl (hb K.hby hd) rfl ((if0 _ _).trans (flt (fun r => Int.not_lt.mpr (show x.toInt ≤ (0 : Int32).toInt from q) (Int32.lt_iff_toInt_lt.mp r))).2.2.1) k) hr
theorem o_if_gt (X : Stand p l e R s m args below meth c T locs cells slots) (K : OCx p s m meth c Z own nm bytes maxL ret) {x : Int32} {o : Int} (hd : decode bytes pc = .ok (.ifCond .gt o, 3)) (pt : Nat) (ho : 0 ≤ (pc : Int) + o) (hp : ((pc : Int) + o).toNat = pt) (pc' : Nat) (hp' : pc + 3 = pc') (h1 : 0 < x.toInt → OGo p e below s n0 Q kc ks (T.setTop (mkF m pt Ls St))) (h2 : x.toInt ≤ 0 → OGo p e below s n0 Q kc ks (T.setTop (mkF m pc' Ls St))) : OGo p e below s n0 Q kc ks (T.setTop (mkF m pc Ls (.int x :: St))) :=
  (Classical.em (0 < x.toInt)).elim (fun q => o_if_gt_t X K hd pt ho hp q (h1 q)) (fun q => o_if_gt_f X K hd pc' hp' (Int.not_lt.mp q) (h2 (Int.not_lt.mp q)))
theorem o_icmp_le_t (X : Stand p l e R s m args below meth c T locs cells slots) (K : OCx p s m meth c Z own nm bytes maxL ret) {x y : Int32} {o : Int} (hd : decode bytes pc = .ok (.if_icmp .le o, 3)) (pt : Nat) (ho : 0 ≤ (pc : Int) + o) (hp : ((pc : Int) + o).toNat = pt) (q : x.toInt ≤ y.toInt) (hr : OGo p e below s n0 Q kc ks (T.setTop (mkF m pt Ls St))) : OGo p e below s n0 Q kc ks (T.setTop (mkF m pc Ls (.int y :: .int x :: St))) :=
  OGo.st (fun _ k => XS.icmpYes X.here K.hx rfl (pc0 := pc) rfl (hb K.hby hd) rfl ((flt (fun r => Int.not_lt.mpr q (Int32.lt_iff_toInt_lt.mp r))).2.2.2) ho hp k) hr
theorem o_icmp_le_f (X : Stand p l e R s m args below meth c T locs cells slots) (K : OCx p s m meth c Z own nm bytes maxL ret) {x y : Int32} {o : Int} (hd : decode bytes pc = .ok (.if_icmp .le o, 3)) (pc' : Nat) (hp : pc + 3 = pc') (q : y.toInt < x.toInt) (hr : OGo p e below s n0 Q kc ks (T.setTop (mkF m pc' Ls St))) : OGo p e below s n0 Q kc ks (T.setTop (mkF m pc Ls (.int y :: .int x :: St))) := by
  subst hp
  exact OGo.st (fun _ k => XS.icmpNo X.here K.hx rfl (hb K.hby hd) rfl ((tlt (Int32.lt_iff_toInt_lt.mpr q)).2.2.2) k) hr
theorem o_icmp_le (X : Stand p l e R s m args below meth c T locs cells slots) (K : OCx p s m meth c Z own nm bytes maxL ret) {x y : Int32} {o : Int} (hd : decode bytes pc = .ok (.if_icmp .le o, 3)) (pt : Nat) (ho : 0 ≤ (pc : Int) + o) (hp : ((pc : Int) + o).toNat = pt) (pc' : Nat) (hp' : pc + 3 = pc') (h1 : x.toInt ≤ y.toInt → OGo p e below s n0 Q kc ks (T.setTop (mkF m pt Ls St))) (h2 : y.toInt < x.toInt → OGo p e below s n0 Q kc ks (T.setTop (mkF m pc' Ls St))) : OGo p e below s n0 Q kc ks (T.setTop (mkF m pc Ls (.int y :: .int x :: St))) :=
  (Classical.em (x.toInt ≤ y.toInt)).elim (fun q => o_icmp_le_t X K hd pt ho hp q (h1 q)) (fun q => o_icmp_le_f X K hd pc' hp' (Int.not_le.mp q) (h2 (Int.not_le.mp q)))
theorem o_if_le_t (X : Stand p l e R s m args below meth c T locs cells slots) (K : OCx p s m meth c Z own nm bytes maxL ret) {x : Int32} {o : Int} (hd : decode bytes pc = .ok (.ifCond .le o, 3)) (pt : Nat) (ho : 0 ≤ (pc : Int) + o) (hp : ((pc : Int) + o).toNat = pt) (q : x.toInt ≤ 0) (hr : OGo p e below s n0 Q kc ks (T.setTop (mkF m pt Ls St))) : OGo p e below s n0 Q kc ks (T.setTop (mkF m pc Ls (.int x :: St))) :=
  OGo.st (fun _ k => XS.ifYes X.here K.hx rfl (pc0 := pc) rfl (hb K.hby hd) rfl ((if0 _ _).trans (flt (fun r => Int.not_lt.mpr (show x.toInt ≤ (0 : Int32).toInt from q) (Int32.lt_iff_toInt_lt.mp r))).2.2.2) ho hp k) hr
theorem o_if_le_f (X : Stand p l e R s m args below meth c T locs cells slots) (K : OCx p s m meth c Z own nm bytes maxL ret) {x : Int32} {o : Int} (hd : decode bytes pc = .ok (.ifCond .le o, 3)) (pc' : Nat) (hp : pc + 3 = pc') (q : 0 < x.toInt) (hr : OGo p e below s n0 Q kc ks (T.setTop (mkF m pc' Ls St))) : OGo p e below s n0 Q kc ks (T.setTop (mkF m pc Ls (.int x :: St))) := by
  subst hp
  exact OGo.st (fun _ k => XS.ifNo X.here K.hx rfl (hb K.hby hd) rfl ((if0 _ _).trans (tlt (Int32.lt_iff_toInt_lt.mpr (show (0 : Int32).toInt < x.toInt from q))).2.2.2) k) hr
theorem o_if_le (X : Stand p l e R s m args below meth c T locs cells slots) (K : OCx p s m meth c Z own nm bytes maxL ret) {x : Int32} {o : Int} (hd : decode bytes pc = .ok (.ifCond .le o, 3)) (pt : Nat) (ho : 0 ≤ (pc : Int) + o) (hp : ((pc : Int) + o).toNat = pt) (pc' : Nat) (hp' : pc + 3 = pc') (h1 : x.toInt ≤ 0 → OGo p e below s n0 Q kc ks (T.setTop (mkF m pt Ls St))) (h2 : 0 < x.toInt → OGo p e below s n0 Q kc ks (T.setTop (mkF m pc' Ls St))) : OGo p e below s n0 Q kc ks (T.setTop (mkF m pc Ls (.int x :: St))) :=
  (Classical.em (x.toInt ≤ 0)).elim (fun q => o_if_le_t X K hd pt ho hp q (h1 q)) (fun q => o_if_le_f X K hd pc' hp' (Int.not_le.mp q) (h2 (Int.not_le.mp q)))
theorem o_icmp_eq_t (X : Stand p l e R s m args below meth c T locs cells slots) (K : OCx p s m meth c Z own nm bytes maxL ret) {x y : Int32} {o : Int} (hd : decode bytes pc = .ok (.if_icmp .eq o, 3)) (pt : Nat) (ho : 0 ≤ (pc : Int) + o) (hp : ((pc : Int) + o).toNat = pt) (q : x = y) (hr : OGo p e below s n0 Q kc ks (T.setTop (mkF m pt Ls St))) : OGo p e below s n0 Q kc ks (T.setTop (mkF m pc Ls (.int y :: .int x :: St))) :=
  OGo.st (fun _ k => XS.icmpYes X.here K.hx rfl (pc0 := pc) rfl (hb K.hby hd) rfl ((teq q).1) ho hp k) hr
theorem o_icmp_eq_f (X : Stand p l e R s m args below meth c T locs cells slots) (K : OCx p s m meth c Z own nm bytes maxL ret) {x y : Int32} {o : Int} (hd : decode bytes pc = .ok (.if_icmp .eq o, 3)) (pc' : Nat) (hp : pc + 3 = pc') (q : ¬ x = y) (hr : OGo p e below s n0 Q kc ks (T.setTop (mkF m pc' Ls St))) : OGo p e below s n0 Q kc ks (T.setTop (mkF m pc Ls (.int y :: .int x :: St))) := by
  subst hp
  exact OGo.st (fun _ k => XS.icmpNo X.here K.hx rfl (hb K.hby hd) rfl ((feq q).1) k) hr
theorem o_icmp_eq (X : Stand p l e R s m args below meth c T locs cells slots) (K : OCx p s m meth c Z own nm bytes maxL ret) {x y : Int32} {o : Int} (hd : decode bytes pc = .ok (.if_icmp .eq o, 3)) (pt : Nat) (ho : 0 ≤ (pc : Int) + o) (hp : ((pc : Int) + o).toNat = pt) (pc' : Nat) (hp' : pc + 3 = pc') (h1 : x = y → OGo p e below s n0 Q kc ks (T.setTop (mkF m pt Ls St))) (h2 : ¬ x = y → OGo p e below s n0 Q kc ks (T.setTop (mkF m pc' Ls St))) : OGo p e below s n0 Q kc ks (T.setTop (mkF m pc Ls (.int y :: .int x :: St))) :=
  (Classical.em (x = y)).elim (fun q => o_icmp_eq_t X K hd pt ho hp q (h1 q)) (fun q => o_icmp_eq_f X K hd pc' hp' (id q) (h2 (id q)))
theorem o_if_eq_t (X : Stand p l e R s m args below meth c T locs cells slots) (K : OCx p s m meth c Z own nm bytes maxL ret) {x : Int32} {o : Int} (hd : decode bytes pc = .ok (.ifCond .eq o, 3)) (pt : Nat) (ho : 0 ≤ (pc : Int) + o) (hp : ((pc : Int) + o).toNat = pt) (q : x = 0) (hr : OGo p e below s n0 Q kc ks (T.setTop (mkF m pt Ls St))) : OGo p e below s n0 Q kc ks (T.setTop (mkF m pc Ls (.int x :: St))) :=
  OGo.st (fun _ k => XS.ifYes X.here K.hx rfl (pc0 := pc) rfl (hb K.hby hd) rfl ((if0 _ _).trans (teq (show x = (0 : Int32) from q)).1) ho hp k) hr
theorem o_if_eq_f (X : Stand p l e R s m args below meth c T locs cells slots) (K : OCx p s m meth c Z own nm bytes maxL ret) {x : Int32} {o : Int} (hd : decode bytes pc = .ok (.ifCond .eq o, 3)) (pc' : Nat) (hp : pc + 3 = pc') (q : ¬ x = 0) (hr : OGo p e below s n0 Q kc ks (T.setTop (mkF m pc' Ls St))) : OGo p e below s n0 Q kc ks (T.setTop (mkF m pc Ls (.int x :: St))) := by
  subst hp
  exact OGo.st (fun _ k => XS.ifNo X.here K.hx rfl (hb K.hby hd) rfl ((if0 _ _).trans (feq (show ¬ x = (0 : Int32) from q)).1) k) hr
theorem o_if_eq (X : Stand p l e R s m args below meth c T locs cells slots) (K : OCx p s m meth c Z own nm bytes maxL ret) {x : Int32} {o : Int} (hd : decode bytes pc = .ok (.ifCond .eq o, 3)) (pt : Nat) (ho : 0 ≤ (pc : Int) + o) (hp : ((pc : Int) + o).toNat = pt) (pc' : Nat) (hp' : pc + 3 = pc') (h1 : x = 0 → OGo p e below s n0 Q kc ks (T.setTop (mkF m pt Ls St))) (h2 : ¬ x = 0 → OGo p e below s n0 Q kc ks (T.setTop (mkF m pc' Ls St))) : OGo p e below s n0 Q kc ks (T.setTop (mkF m pc Ls (.int x :: St))) :=
  (Classical.em (x = 0)).elim (fun q => o_if_eq_t X K hd pt ho hp q (h1 q)) (fun q => o_if_eq_f X K hd pc' hp' (id q) (h2 (id q)))
theorem o_icmp_ne_t (X : Stand p l e R s m args below meth c T locs cells slots) (K : OCx p s m meth c Z own nm bytes maxL ret) {x y : Int32} {o : Int} (hd : decode bytes pc = .ok (.if_icmp .ne o, 3)) (pt : Nat) (ho : 0 ≤ (pc : Int) + o) (hp : ((pc : Int) + o).toNat = pt) (q : ¬ x = y) (hr : OGo p e below s n0 Q kc ks (T.setTop (mkF m pt Ls St))) : OGo p e below s n0 Q kc ks (T.setTop (mkF m pc Ls (.int y :: .int x :: St))) :=
  OGo.st (fun _ k => XS.icmpYes X.here K.hx rfl (pc0 := pc) rfl (hb K.hby hd) rfl ((feq q).2) ho hp k) hr
theorem o_icmp_ne_f (X : Stand p l e R s m args below meth c T locs cells slots) (K : OCx p s m meth c Z own nm bytes maxL ret) {x y : Int32} {o : Int} (hd : decode bytes pc = .ok (.if_icmp .ne o, 3)) (pc' : Nat) (hp : pc + 3 = pc') (q : x = y) (hr : OGo p e below s n0 Q kc ks (T.setTop (mkF m pc' Ls St))) : OGo p e below s n0 Q kc ks (T.setTop (mkF m pc Ls (.int y :: .int x :: St))) := by
  subst hp
  exact OGo.st (fun _ k => XS.icmpNo X.here K.hx rfl (hb K.hby hd) rfl ((teq q).2) k) hr
theorem o_icmp_ne (X : Stand p l e R s m args below meth c T locs cells slots) (K : OCx p s m meth c Z own nm bytes maxL ret) {x y : Int32} {o : Int} (hd : decode bytes pc = .ok (.if_icmp .ne o, 3)) (pt : Nat) (ho : 0 ≤ (pc : Int) + o) (hp : ((pc : Int) + o).toNat = pt) (pc' : Nat) (hp' : pc + 3 = pc') (h1 : ¬ x = y → OGo p e below s n0 Q kc ks (T.setTop (mkF m pt Ls St))) (h2 : x = y → OGo p e below s n0 Q kc ks (T.setTop (mkF m pc' Ls St))) : OGo p e below s n0 Q kc ks (T.setTop (mkF m pc Ls (.int y :: .int x :: St))) :=
  (Classical.em (¬ x = y)).elim (fun q => o_icmp_ne_t X K hd pt ho hp q (h1 q)) (fun q => o_icmp_ne_f X K hd pc' hp' (Classical.not_not.mp q) (h2 (Classical.not_not.mp q)))
theorem o_if_ne_t (X : Stand p l e R s m args below meth c T locs cells slots) (K : OCx p s m meth c Z own nm bytes maxL ret) {x : Int32} {o : Int} (hd : decode bytes pc = .ok (.ifCond .ne o, 3)) (pt : Nat) (ho : 0 ≤ (pc : Int) + o) (hp : ((pc : Int) + o).toNat = pt) (q : ¬ x = 0) (hr : OGo p e below s n0 Q kc ks (T.setTop (mkF m pt Ls St))) : OGo p e below s n0 Q kc ks (T.setTop (mkF m pc Ls (.int x :: St))) :=
  OGo.st (fun _ k => XS.ifYes X.here K.hx rfl (pc0 := pc) rfl (hb K.hby hd) rfl ((if0 _ _).trans (feq (show ¬ x = (0 : Int32) from q)).2) ho hp k) hr
theorem o_if_ne_f (X : Stand p l e R s m args below meth c T locs cells slots) (K : OCx p s m meth c Z own nm bytes maxL ret) {x : Int32} {o : Int} (hd : decode bytes pc = .ok (.ifCond .ne o, 3)) (pc' : Nat) (hp : pc + 3 = pc') (q : x = 0) (hr : OGo p e below s n0 Q kc ks (T.setTop (mkF m pc' Ls St))) : OGo p e below s n0 Q kc ks (T.setTop (mkF m pc Ls (.int x :: St))) := by
  subst hp
  exact OGo.st (fun _ k => XS.ifNo X.here K.hx rfl (hb K.hby hd) rfl ((if0 _ _).trans (teq (show x = (0 : Int32) from q)).2) k) hr
theorem o_if_ne (X : Stand p l e R s m args below meth c T locs cells slots) (K : OCx p s m meth c Z own nm bytes maxL ret) {x : Int32} {o : Int} (hd : decode bytes pc = .ok (.ifCond .ne o, 3)) (pt : Nat) (ho : 0 ≤ (pc : Int) + o) (hp : ((pc : Int) + o).toNat = pt) (pc' : Nat) (hp' : pc + 3 = pc') (h1 : ¬ x = 0 → OGo p e below s n0 Q kc ks (T.setTop (mkF m pt Ls St))) (h2 : x = 0 → OGo p e below s n0 Q kc ks (T.setTop (mkF m pc' Ls St))) : OGo p e below s n0 Q kc ks (T.setTop (mkF m pc Ls (.int x :: St))) :=
  (Classical.em (¬ x = 0)).elim (fun q => o_if_ne_t X K hd pt ho hp q (h1 q)) (fun q => o_if_ne_f X K hd pc' hp' (Classical.not_not.mp q) (h2 (Classical.not_not.mp q)))
theorem o_lw_lt {x y : Int64} : (lcmpW x y).toInt < 0 ↔ x.toInt < y.toInt := by
  have q := lw_lt x y
  rw [Int32.lt_iff_toInt_lt, Int64.lt_iff_toInt_lt] at q
  exact q
theorem o_lw_gt {x y : Int64} : 0 < (lcmpW x y).toInt ↔ y.toInt < x.toInt := by
  have q := lw_gt x y
  rw [Int32.lt_iff_toInt_lt, Int64.lt_iff_toInt_lt] at q
  exact q
theorem o_lw_le {x y : Int64} : (lcmpW x y).toInt ≤ 0 ↔ x.toInt ≤ y.toInt := by
  have q := @o_lw_gt x y
  omega
theorem o_lw_ge {x y : Int64} : 0 ≤ (lcmpW x y).toInt ↔ y.toInt ≤ x.toInt := by
  have q := @o_lw_lt x y
  omega
theorem o_lw_eq {x y : Int64} : lcmpW x y = 0 ↔ x = y := lw_eq x y
theorem o_ifnull_t (X : Stand p l e R s m args below meth c T locs cells slots) (K : OCx p s m meth c Z own nm bytes maxL ret) {o : Int} (hd : decode bytes pc = .ok (.ifnull o, 3)) (pt : Nat) (ho : 0 ≤ (pc : Int) + o) (hp : ((pc : Int) + o).toNat = pt) (hr : OGo p e below s n0 Q kc ks (T.setTop (mkF m pt Ls St))) : OGo p e below s n0 Q kc ks (T.setTop (mkF m pc Ls (.null :: St))) :=
  OGo.st (fun _ k => XS.ifnullYes X.here K.hx rfl (pc0 := pc) rfl (hb K.hby hd) rfl ho hp k) hr
theorem o_ifnull_f (X : Stand p l e R s m args below meth c T locs cells slots) (K : OCx p s m meth c Z own nm bytes maxL ret) {o : Int} {b : Addr} (hd : decode bytes pc = .ok (.ifnull o, 3)) (pc' : Nat) (hp : pc + 3 = pc') (hr : OGo p e below s n0 Q kc ks (T.setTop (mkF m pc' Ls St))) : OGo p e below s n0 Q kc ks (T.setTop (mkF m pc Ls (.ref b :: St))) := by
  subst hp
  exact OGo.st (fun _ k => XS.ifnullNo X.here K.hx rfl (hb K.hby hd) rfl k) hr
theorem o_ifnonnull_t (X : Stand p l e R s m args below meth c T locs cells slots) (K : OCx p s m meth c Z own nm bytes maxL ret) {o : Int} {b : Addr} (hd : decode bytes pc = .ok (.ifnonnull o, 3)) (pt : Nat) (ho : 0 ≤ (pc : Int) + o) (hp : ((pc : Int) + o).toNat = pt) (hr : OGo p e below s n0 Q kc ks (T.setTop (mkF m pt Ls St))) : OGo p e below s n0 Q kc ks (T.setTop (mkF m pc Ls (.ref b :: St))) :=
  OGo.st (fun _ k => XS.ifnonnullYes X.here K.hx rfl (pc0 := pc) rfl (hb K.hby hd) rfl ho hp k) hr
theorem o_ifnonnull_f (X : Stand p l e R s m args below meth c T locs cells slots) (K : OCx p s m meth c Z own nm bytes maxL ret) {o : Int} (hd : decode bytes pc = .ok (.ifnonnull o, 3)) (pc' : Nat) (hp : pc + 3 = pc') (hr : OGo p e below s n0 Q kc ks (T.setTop (mkF m pc' Ls St))) : OGo p e below s n0 Q kc ks (T.setTop (mkF m pc Ls (.null :: St))) := by
  subst hp
  exact OGo.st (fun _ k => XS.ifnonnullNo X.here K.hx rfl (hb K.hby hd) rfl k) hr
theorem o_acmp (X : Stand p l e R s m args below meth c T locs cells slots) (K : OCx p s m meth c Z own nm bytes maxL ret) {cd : ACond} {x y : Value} {o : Int} (hd : decode bytes pc = .ok (.if_acmp cd o, 3)) (pc' : Nat) (h1 : x.isRef = true) (h2 : y.isRef = true) (same : Bool) (hq : decide (x = y) = same) (ho : 0 ≤ (pc : Int) + o) (hp : pc' = if acV cd same = true then ((pc : Int) + o).toNat else pc + 3) (hr : OGo p e below s n0 Q kc ks (T.setTop (mkF m pc' Ls St))) : OGo p e below s n0 Q kc ks (T.setTop (mkF m pc Ls (y :: x :: St))) :=
  OGo.st (fun _ k => Jvm.RoadKit.acmp (g := mkF m pc Ls (y :: x :: St)) X K.hx rfl h1 h2 (pc0 := pc) rfl (hb K.hby hd) rfl hq ho hp k) hr
theorem o_leave (X : Stand p l e R s m args below meth c T locs cells slots) (hlk : meth.locks = false) {v : Option Value} (hv : meth.sig.returnType = none → v = none) {S : State} (hc : cells ≤ kc) (hs : slots ≤ ks) (N : Fr n0 locs) (hQ : Q v T.heap)
    (k : ∀ fs, (∀ (f : JFrame) (acts : List Action), f.method = m → f.locked = none → f.entered = [] → (doReturn e (T.setTop f) acts v).1 = T.setFrames fs) → Steps p.tables e below S (T.setFrames fs)) : OGo p e below s n0 Q kc ks S := by
  obtain ⟨fs, hr, hrun, hended, hW, hsame⟩ := X.leave (v := v) hv
  exact ⟨_, _, k fs hr, hrun, hended, v, locs, rfl, ⟨hQ, N⟩, ⟨v, rfl⟩, hW, hsame.mono hc hs⟩
theorem o_ireturn (X : Stand p l e R s m args below meth c T locs cells slots) (K : OCx p s m meth c Z own nm bytes maxL (some .int)) {z : Int32} (hd : decode bytes pc = .ok (.ireturn, 1)) (hc : cells ≤ kc) (hs : slots ≤ ks) (N : Fr n0 locs) (hQ : Q (some (.int z)) T.heap) : OGo p e below s n0 Q kc ks (T.setTop (mkF m pc Ls (.int z :: St))) :=
  o_leave X K.hlk (fun h => by rw [K.hret] at h; cases h) hc hs N hQ (fun fs hr => retI X K.hx K.hret (hb K.hby hd) hr)
theorem o_ireturnN {t : FieldType} (X : Stand p l e R s m args below meth c T locs cells slots) (K : OCx p s m meth c Z own nm bytes maxL (some t)) (ht : t = .boolean ∨ t = .byte ∨ t = .char ∨ t = .short) {z : Int32} (hd : decode bytes pc = .ok (.ireturn, 1)) (hc : cells ≤ kc) (hs : slots ≤ ks) (N : Fr n0 locs) (hQ : Q (some (.int (nar t z))) T.heap) : OGo p e below s n0 Q kc ks (T.setTop (mkF m pc Ls (.int z :: St))) :=
  o_leave X K.hlk (fun h => by rw [K.hret] at h; cases h) hc hs N hQ (fun fs hr => retN X K.hx K.hret ht (hb K.hby hd) hr)
theorem o_lreturn (X : Stand p l e R s m args below meth c T locs cells slots) (K : OCx p s m meth c Z own nm bytes maxL (some .long)) {z : Int64} (hd : decode bytes pc = .ok (.lreturn, 1)) (hc : cells ≤ kc) (hs : slots ≤ ks) (N : Fr n0 locs) (hQ : Q (some (.long z)) T.heap) : OGo p e below s n0 Q kc ks (T.setTop (mkF m pc Ls (.long z :: St))) :=
  o_leave X K.hlk (fun h => by rw [K.hret] at h; cases h) hc hs N hQ (fun fs hr => retOut X K.hx K.hret rfl (Or.inr (Or.inl ⟨rfl, rfl, z, rfl⟩)) (hb K.hby hd) hr)
theorem o_areturn {t : FieldType} (X : Stand p l e R s m args below meth c T locs cells slots) (K : OCx p s m meth c Z own nm bytes maxL (some t)) (ht : t.isReference = true) {z : Value} (hn : narrow t z = z) (hz : z.isRef = true) (hd : decode bytes pc = .ok (.areturn, 1)) (hc : cells ≤ kc) (hs : slots ≤ ks) (N : Fr n0 locs) (hQ : Q (some z) T.heap) : OGo p e below s n0 Q kc ks (T.setTop (mkF m pc Ls (z :: St))) :=
  o_leave X K.hlk (fun h => by rw [K.hret] at h; cases h) hc hs N hQ (fun fs hr => retOut X K.hx K.hret hn (Or.inr (Or.inr (Or.inr (Or.inr ⟨rfl, ht, hz⟩)))) (hb K.hby hd) hr)
theorem o_return (X : Stand p l e R s m args below meth c T locs cells slots) (K : OCx p s m meth c Z own nm bytes maxL none) (hd : decode bytes pc = .ok (.return_, 1)) (hc : cells ≤ kc) (hs : slots ≤ ks) (N : Fr n0 locs) (hQ : Q none T.heap) : OGo p e below s n0 Q kc ks (T.setTop (mkF m pc Ls [])) :=
  o_leave X K.hlk (fun _ => rfl) hc hs N hQ (fun fs hr => X.returnOut K.hx K.hret (hb K.hby hd) hr)
/-- an array: its kind, its length, what each place holds -/
def OAr (Z : State) (h : Heap) (a : Addr) (ty : FieldType) (n : Nat) (f : Nat → Value) : Prop := ∃ c : Cell, Arr Z h a c ty ∧ c.slots.size = n ∧ n < 2147483648 ∧ (∀ j, j < n → c.slots[j]? = some (f j)) ∧ ∀ j, j < n → fits ty (f j) = true
theorem OAr.lt {a : Addr} {ty : FieldType} {n : Nat} {f : Nat → Value} (A : OAr Z h a ty n f) : a < h.size := by obtain ⟨c, A, -⟩ := A; exact A.lt
theorem OAr.len {a : Addr} {ty : FieldType} {n : Nat} {f : Nat → Value} (A : OAr Z h a ty n f) : n < 2147483648 := by obtain ⟨c, -, -, A, -⟩ := A; exact A
theorem OAr.fit {a : Addr} {ty : FieldType} {n : Nat} {f : Nat → Value} (A : OAr Z h a ty n f) {j : Nat} (hj : j < n) : fits ty (f j) = true := by obtain ⟨c, -, -, -, -, A⟩ := A; exact A j hj
theorem OAr.ext {a : Addr} {ty : FieldType} {n : Nat} {f : Nat → Value} (A : OAr Z h a ty n f) (E : Ext h h') : OAr Z h' a ty n f := by obtain ⟨c, A, r⟩ := A; exact ⟨c, A.ext E, r⟩
theorem OAr.other {a b : Addr} {ty : FieldType} {n sl : Nat} {f : Nat → Value} {v : Value} (A : OAr Z h b ty n f) (W : Wr h h' a sl v) (q : b ≠ a) : OAr Z h' b ty n f := by obtain ⟨c, A, r⟩ := A; exact ⟨c, A.other W q, r⟩
theorem OAr.keep {a : Addr} {ty : FieldType} {n : Nat} {f : Nat → Value} {ws : List Addr} (A : OAr Z h a ty n f) (E : Keep h h' ws) (q : a ∉ ws) : OAr Z h' a ty n f := by obtain ⟨c, A, r⟩ := A; exact ⟨c, ⟨E.2.1 _ _ A.1 q, A.2⟩, r⟩
theorem OAr.congr {a : Addr} {ty : FieldType} {n : Nat} {f g : Nat → Value} (A : OAr Z h a ty n f) (q : ∀ j, j < n → f j = g j) : OAr Z h a ty n g := by
  obtain ⟨c, A, r1, r2, r3, r4⟩ := A
  exact ⟨c, A, r1, r2, fun j hj => by rw [← q j hj]; exact r3 j hj, fun j hj => by rw [← q j hj]; exact r4 j hj⟩
theorem OAr.same {a : Addr} {ty : FieldType} {n i : Nat} {f : Nat → Value} {v : Value} (A : OAr Z h a ty n f) (W : Wr h h' a i v) (hv : fits ty v = true) : OAr Z h' a ty n (fun q => if q = i then v else f q) := by
  obtain ⟨c, A, r1, r2, r3, r4⟩ := A
  refine ⟨_, A.same W, by rw [sz_set]; exact r1, r2, fun j hj => ?_, fun j hj => ?_⟩
  · by_cases e : j = i
    · subst e; simp [Cell.setSlot, r1, hj]
    · have e' : ¬ i = j := fun z => e z.symm
      simp [Cell.setSlot, e, e', r3 j hj]
  · by_cases e : j = i
    · simp [e, hv]
    · simp [e, r4 j hj]
theorem o_idx {j : Int32} {i n : Nat} {c : Cell} (hj : j.toInt = (i : Int)) (hi : i < n) (r1 : c.slots.size = n) : ¬ (j < 0 ∨ c.slots.size ≤ j.toNatClampNeg) ∧ j.toNatClampNeg = i := by
  have e : j.toNatClampNeg = i := by rw [← Int32.toNat_toInt, hj]; rfl
  refine ⟨?_, e⟩
  rw [e, r1, Int32.lt_iff_toInt_lt, hj]
  intro q
  rcases q with q | q
  · have : (0 : Int32).toInt = 0 := rfl
    omega
  · omega
theorem o_len {n : Nat} (h : n < 2147483648) : (n.toInt32).toInt = n := by
  have := len_toInt (n := n) (by omega)
  exact this
theorem o_arraylength (X : Stand p l e R s m args below meth c T locs cells slots) (K : OCx p s m meth c Z own nm bytes maxL ret) {a : Addr} {ty : FieldType} {n : Nat} {f : Nat → Value} (hd : decode bytes pc = .ok (.arraylength, 1)) (pc' : Nat) (hp : pc + 1 = pc') (eT : T.heap = h) (A : OAr Z h a ty n f) {v : Int32} (hv : v.toInt = n) (hr : OGo p e below s n0 Q kc ks (T.setTop (mkF m pc' Ls (.int v :: St)))) : OGo p e below s n0 Q kc ks (T.setTop (mkF m pc Ls (.ref a :: St))) := by
  subst hp
  obtain ⟨cl, A, r1, r2, -⟩ := A
  have e1 : cl.slots.size.toInt32 = v := by rw [← Int32.toInt_inj, hv, r1]; exact o_len r2
  refine OGo.st (fun t k => ?_) hr
  refine X.arraylength K.hx (g := mkF m pc Ls (.ref a :: St)) (by rw [eT]; exact A.1) (State.isArrayOf_alike K.hZ.alike A.2.1) rfl rfl (hb K.hby hd) t ?_
  rw [e1]
  exact k
theorem o_iaload (X : Stand p l e R s m args below meth c T locs cells slots) (K : OCx p s m meth c Z own nm bytes maxL ret) {a : Addr} {n i : Nat} {f : Nat → Value} {j : Int32} {v : Value} (hd : decode bytes pc = .ok (.iaload, 1)) (pc' : Nat) (hp : pc + 1 = pc') (eT : T.heap = h) (A : OAr Z h a .int n f) (hj : j.toInt = (i : Int)) (hi : i < n) (hv : f i = v) (hr : OGo p e below s n0 Q kc ks (T.setTop (mkF m pc' Ls (v :: St)))) : OGo p e below s n0 Q kc ks (T.setTop (mkF m pc Ls (.int j :: .ref a :: St))) := by
  subst hp
  obtain ⟨cl, A, r1, r2, r3, -⟩ := A
  obtain ⟨q1, q2⟩ := o_idx (c := cl) hj hi r1
  exact OGo.st (fun t k => X.iaload K.hx (g := mkF m pc Ls (.int j :: .ref a :: St)) (by rw [eT]; exact A.1) (State.isArrayOf_alike K.hZ.alike A.2.1) A.2.2 q1 (by rw [q2, r3 i hi, hv]) rfl rfl (hb K.hby hd) t k) hr
theorem o_laload (X : Stand p l e R s m args below meth c T locs cells slots) (K : OCx p s m meth c Z own nm bytes maxL ret) {a : Addr} {n i : Nat} {f : Nat → Value} {j : Int32} {v : Value} (hd : decode bytes pc = .ok (.laload, 1)) (pc' : Nat) (hp : pc + 1 = pc') (eT : T.heap = h) (A : OAr Z h a .long n f) (hj : j.toInt = (i : Int)) (hi : i < n) (hv : f i = v) (hr : OGo p e below s n0 Q kc ks (T.setTop (mkF m pc' Ls (v :: St)))) : OGo p e below s n0 Q kc ks (T.setTop (mkF m pc Ls (.int j :: .ref a :: St))) := by
  subst hp
  obtain ⟨cl, A, r1, r2, r3, -⟩ := A
  obtain ⟨q1, q2⟩ := o_idx (c := cl) hj hi r1
  exact OGo.st (fun t k => X.laload K.hx (g := mkF m pc Ls (.int j :: .ref a :: St)) (by rw [eT]; exact A.1) (State.isArrayOf_alike K.hZ.alike A.2.1) A.2.2 q1 (by rw [q2, r3 i hi, hv]) rfl rfl (hb K.hby hd) t k) hr
theorem o_caload (X : Stand p l e R s m args below meth c T locs cells slots) (K : OCx p s m meth c Z own nm bytes maxL ret) {a : Addr} {n i : Nat} {f : Nat → Value} {j : Int32} {v : Value} (hd : decode bytes pc = .ok (.caload, 1)) (pc' : Nat) (hp : pc + 1 = pc') (eT : T.heap = h) (A : OAr Z h a .char n f) (hj : j.toInt = (i : Int)) (hi : i < n) (hv : f i = v) (hr : OGo p e below s n0 Q kc ks (T.setTop (mkF m pc' Ls (v :: St)))) : OGo p e below s n0 Q kc ks (T.setTop (mkF m pc Ls (.int j :: .ref a :: St))) := by
  subst hp
  obtain ⟨cl, A, r1, r2, r3, -⟩ := A
  obtain ⟨q1, q2⟩ := o_idx (c := cl) hj hi r1
  exact OGo.st (fun t k => X.caload K.hx (g := mkF m pc Ls (.int j :: .ref a :: St)) (by rw [eT]; exact A.1) (State.isArrayOf_alike K.hZ.alike A.2.1) A.2.2 q1 (by rw [q2, r3 i hi, hv]) rfl rfl (hb K.hby hd) t k) hr
theorem o_saload (X : Stand p l e R s m args below meth c T locs cells slots) (K : OCx p s m meth c Z own nm bytes maxL ret) {a : Addr} {n i : Nat} {f : Nat → Value} {j : Int32} {v : Value} (hd : decode bytes pc = .ok (.saload, 1)) (pc' : Nat) (hp : pc + 1 = pc') (eT : T.heap = h) (A : OAr Z h a .short n f) (hj : j.toInt = (i : Int)) (hi : i < n) (hv : f i = v) (hr : OGo p e below s n0 Q kc ks (T.setTop (mkF m pc' Ls (v :: St)))) : OGo p e below s n0 Q kc ks (T.setTop (mkF m pc Ls (.int j :: .ref a :: St))) := by
  subst hp
  obtain ⟨cl, A, r1, r2, r3, -⟩ := A
  obtain ⟨q1, q2⟩ := o_idx (c := cl) hj hi r1
  exact OGo.st (fun t k => X.saload K.hx (g := mkF m pc Ls (.int j :: .ref a :: St)) (by rw [eT]; exact A.1) (State.isArrayOf_alike K.hZ.alike A.2.1) A.2.2 q1 (by rw [q2, r3 i hi, hv]) rfl rfl (hb K.hby hd) t k) hr
theorem o_baload (X : Stand p l e R s m args below meth c T locs cells slots) (K : OCx p s m meth c Z own nm bytes maxL ret) {a : Addr} {n i : Nat} {f : Nat → Value} {j : Int32} {v : Value} (hd : decode bytes pc = .ok (.baload, 1)) (pc' : Nat) (hp : pc + 1 = pc') (eT : T.heap = h) (A : OAr Z h a .byte n f) (hj : j.toInt = (i : Int)) (hi : i < n) (hv : f i = v) (hr : OGo p e below s n0 Q kc ks (T.setTop (mkF m pc' Ls (v :: St)))) : OGo p e below s n0 Q kc ks (T.setTop (mkF m pc Ls (.int j :: .ref a :: St))) := by
  subst hp
  obtain ⟨cl, A, r1, r2, r3, -⟩ := A
  obtain ⟨q1, q2⟩ := o_idx (c := cl) hj hi r1
  exact OGo.st (fun t k => X.baloadBytes K.hx (g := mkF m pc Ls (.int j :: .ref a :: St)) (by rw [eT]; exact A.1) (State.isArrayOf_alike K.hZ.alike A.2.1) A.2.2 q1 (by rw [q2, r3 i hi, hv]) rfl rfl (hb K.hby hd) t k) hr
theorem o_zaload (X : Stand p l e R s m args below meth c T locs cells slots) (K : OCx p s m meth c Z own nm bytes maxL ret) {a : Addr} {n i : Nat} {f : Nat → Value} {j : Int32} {v : Value} (hd : decode bytes pc = .ok (.baload, 1)) (pc' : Nat) (hp : pc + 1 = pc') (eT : T.heap = h) (A : OAr Z h a .boolean n f) (hj : j.toInt = (i : Int)) (hi : i < n) (hv : f i = v) (hr : OGo p e below s n0 Q kc ks (T.setTop (mkF m pc' Ls (v :: St)))) : OGo p e below s n0 Q kc ks (T.setTop (mkF m pc Ls (.int j :: .ref a :: St))) := by
  subst hp
  obtain ⟨cl, A, r1, r2, r3, -⟩ := A
  obtain ⟨q1, q2⟩ := o_idx (c := cl) hj hi r1
  exact OGo.st (fun t k => X.baloadBooleans K.hx (g := mkF m pc Ls (.int j :: .ref a :: St)) (by rw [eT]; exact A.1) (State.isArrayOf_alike K.hZ.alike A.2.1) A.2.2 q1 (by rw [q2, r3 i hi, hv]) rfl rfl (hb K.hby hd) t k) hr
theorem o_aaload (X : Stand p l e R s m args below meth c T locs cells slots) (K : OCx p s m meth c Z own nm bytes maxL ret) {a : Addr} {ty : FieldType} {n i : Nat} {f : Nat → Value} {j : Int32} {v : Value} (hd : decode bytes pc = .ok (.aaload, 1)) (pc' : Nat) (hp : pc + 1 = pc') (eT : T.heap = h) (A : OAr Z h a ty n f) (hty : ty.isReference = true) (hj : j.toInt = (i : Int)) (hi : i < n) (hv : f i = v) (hr : OGo p e below s n0 Q kc ks (T.setTop (mkF m pc' Ls (v :: St)))) : OGo p e below s n0 Q kc ks (T.setTop (mkF m pc Ls (.int j :: .ref a :: St))) := by
  subst hp
  obtain ⟨cl, A, r1, r2, r3, -⟩ := A
  obtain ⟨q1, q2⟩ := o_idx (c := cl) hj hi r1
  exact OGo.st (fun t k => X.aaload K.hx (g := mkF m pc Ls (.int j :: .ref a :: St)) (by rw [eT]; exact A.1) (State.isArrayOf_alike K.hZ.alike A.2.1) hty A.2.2 q1 (by rw [q2, r3 i hi, hv]) rfl rfl (hb K.hby hd) t k) hr
theorem o_bastore (X : Stand p l e R s m args below meth c T locs cells slots) (K : OCx p s m meth c Z own nm bytes maxL ret) {a : Addr} {n i : Nat} {f : Nat → Value} {j : Int32} {x x' : Int32} (hd : decode bytes pc = .ok (.bastore, 1)) (pc' : Nat) (hp : pc + 1 = pc') (eT : T.heap = h) (A : OAr Z h a .byte n f) (hj : j.toInt = (i : Int)) (hi : i < n) (hv : nar .byte x = x') (N : Fr n0 locs) (ge : n0 ≤ a)
    (hr : ∀ T' h' locs', Stand p l e R s m args below meth c T' locs' cells slots → T'.heap = h' → Wr h h' a i (.int x') → OAr Z h' a .byte n (fun q => if q = i then (.int x') else f q) → Fr n0 locs' → OGo p e below s n0 Q kc ks (T'.setTop (mkF m pc' Ls St))) : OGo p e below s n0 Q kc ks (T.setTop (mkF m pc Ls (.int x :: .int j :: .ref a :: St))) := by
  subst hp hv
  obtain ⟨cl, B, r1, r2, r3, -⟩ := id A
  obtain ⟨q1, q2⟩ := o_idx (c := cl) hj hi r1
  obtain ⟨T', h', X', e', W', st'⟩ := stB X K.hx K.hZ eT B q1 (g := mkF m pc Ls (.int x :: .int j :: .ref a :: St)) rfl rfl (hb K.hby hd)
  have N' := Fr.snoc X' N ge
  rw [q2] at W'
  exact OGo.st st' (hr T' h' _ X' e' W' (A.same W' (fits_nar_byte x)) N')
theorem o_castore (X : Stand p l e R s m args below meth c T locs cells slots) (K : OCx p s m meth c Z own nm bytes maxL ret) {a : Addr} {n i : Nat} {f : Nat → Value} {j : Int32} {x x' : Int32} (hd : decode bytes pc = .ok (.castore, 1)) (pc' : Nat) (hp : pc + 1 = pc') (eT : T.heap = h) (A : OAr Z h a .char n f) (hj : j.toInt = (i : Int)) (hi : i < n) (hv : nar .char x = x') (N : Fr n0 locs) (ge : n0 ≤ a)
    (hr : ∀ T' h' locs', Stand p l e R s m args below meth c T' locs' cells slots → T'.heap = h' → Wr h h' a i (.int x') → OAr Z h' a .char n (fun q => if q = i then (.int x') else f q) → Fr n0 locs' → OGo p e below s n0 Q kc ks (T'.setTop (mkF m pc' Ls St))) : OGo p e below s n0 Q kc ks (T.setTop (mkF m pc Ls (.int x :: .int j :: .ref a :: St))) := by
  subst hp hv
  obtain ⟨cl, B, r1, r2, r3, -⟩ := id A
  obtain ⟨q1, q2⟩ := o_idx (c := cl) hj hi r1
  obtain ⟨T', h', X', e', W', st'⟩ := stC X K.hx K.hZ eT B q1 (g := mkF m pc Ls (.int x :: .int j :: .ref a :: St)) rfl rfl (hb K.hby hd)
  have N' := Fr.snoc X' N ge
  rw [q2] at W'
  exact OGo.st st' (hr T' h' _ X' e' W' (A.same W' (fits_nar_char x)) N')
theorem o_sastore (X : Stand p l e R s m args below meth c T locs cells slots) (K : OCx p s m meth c Z own nm bytes maxL ret) {a : Addr} {n i : Nat} {f : Nat → Value} {j : Int32} {x x' : Int32} (hd : decode bytes pc = .ok (.sastore, 1)) (pc' : Nat) (hp : pc + 1 = pc') (eT : T.heap = h) (A : OAr Z h a .short n f) (hj : j.toInt = (i : Int)) (hi : i < n) (hv : nar .short x = x') (N : Fr n0 locs) (ge : n0 ≤ a)
    (hr : ∀ T' h' locs', Stand p l e R s m args below meth c T' locs' cells slots → T'.heap = h' → Wr h h' a i (.int x') → OAr Z h' a .short n (fun q => if q = i then (.int x') else f q) → Fr n0 locs' → OGo p e below s n0 Q kc ks (T'.setTop (mkF m pc' Ls St))) : OGo p e below s n0 Q kc ks (T.setTop (mkF m pc Ls (.int x :: .int j :: .ref a :: St))) := by
  subst hp hv
  obtain ⟨cl, B, r1, r2, r3, -⟩ := id A
  obtain ⟨q1, q2⟩ := o_idx (c := cl) hj hi r1
  obtain ⟨T', h', X', e', W', st'⟩ := stS X K.hx K.hZ eT B q1 (g := mkF m pc Ls (.int x :: .int j :: .ref a :: St)) rfl rfl (hb K.hby hd)
  have N' := Fr.snoc X' N ge
  rw [q2] at W'
  exact OGo.st st' (hr T' h' _ X' e' W' (A.same W' (fits_nar_short x)) N')
theorem o_zastore (X : Stand p l e R s m args below meth c T locs cells slots) (K : OCx p s m meth c Z own nm bytes maxL ret) {a : Addr} {n i : Nat} {f : Nat → Value} {j : Int32} {x x' : Int32} (hd : decode bytes pc = .ok (.bastore, 1)) (pc' : Nat) (hp : pc + 1 = pc') (eT : T.heap = h) (A : OAr Z h a .boolean n f) (hj : j.toInt = (i : Int)) (hi : i < n) (hv : nar .boolean x = x') (N : Fr n0 locs) (ge : n0 ≤ a)
    (hr : ∀ T' h' locs', Stand p l e R s m args below meth c T' locs' cells slots → T'.heap = h' → Wr h h' a i (.int x') → OAr Z h' a .boolean n (fun q => if q = i then (.int x') else f q) → Fr n0 locs' → OGo p e below s n0 Q kc ks (T'.setTop (mkF m pc' Ls St))) : OGo p e below s n0 Q kc ks (T.setTop (mkF m pc Ls (.int x :: .int j :: .ref a :: St))) := by
  subst hp hv
  obtain ⟨cl, B, r1, r2, r3, -⟩ := id A
  obtain ⟨q1, q2⟩ := o_idx (c := cl) hj hi r1
  obtain ⟨T', h', X', e', W', st'⟩ := stZ X K.hx K.hZ eT B q1 (g := mkF m pc Ls (.int x :: .int j :: .ref a :: St)) rfl rfl (hb K.hby hd)
  have N' := Fr.snoc X' N ge
  rw [q2] at W'
  exact OGo.st st' (hr T' h' _ X' e' W' (A.same W' (fits_nar_bool x)) N')
theorem o_iastore (X : Stand p l e R s m args below meth c T locs cells slots) (K : OCx p s m meth c Z own nm bytes maxL ret) {a : Addr} {n i : Nat} {f : Nat → Value} {j : Int32} {x x' : Int32} (hd : decode bytes pc = .ok (.iastore, 1)) (pc' : Nat) (hp : pc + 1 = pc') (eT : T.heap = h) (A : OAr Z h a .int n f) (hj : j.toInt = (i : Int)) (hi : i < n) (hv : x = x') (N : Fr n0 locs) (ge : n0 ≤ a)
    (hr : ∀ T' h' locs', Stand p l e R s m args below meth c T' locs' cells slots → T'.heap = h' → Wr h h' a i (.int x') → OAr Z h' a .int n (fun q => if q = i then (.int x') else f q) → Fr n0 locs' → OGo p e below s n0 Q kc ks (T'.setTop (mkF m pc' Ls St))) : OGo p e below s n0 Q kc ks (T.setTop (mkF m pc Ls (.int x :: .int j :: .ref a :: St))) := by
  subst hp hv
  obtain ⟨cl, B, r1, r2, r3, -⟩ := id A
  obtain ⟨q1, q2⟩ := o_idx (c := cl) hj hi r1
  obtain ⟨T', h', X', e', W', st'⟩ := stI X K.hx K.hZ eT B q1 (g := mkF m pc Ls (.int x :: .int j :: .ref a :: St)) rfl rfl (hb K.hby hd)
  have N' := Fr.snoc X' N ge
  rw [q2] at W'
  exact OGo.st st' (hr T' h' _ X' e' W' (A.same W' (rfl)) N')
theorem o_lastore (X : Stand p l e R s m args below meth c T locs cells slots) (K : OCx p s m meth c Z own nm bytes maxL ret) {a : Addr} {n i : Nat} {f : Nat → Value} {j : Int32} {x x' : Int64} (hd : decode bytes pc = .ok (.lastore, 1)) (pc' : Nat) (hp : pc + 1 = pc') (eT : T.heap = h) (A : OAr Z h a .long n f) (hj : j.toInt = (i : Int)) (hi : i < n) (hv : x = x') (N : Fr n0 locs) (ge : n0 ≤ a)
    (hr : ∀ T' h' locs', Stand p l e R s m args below meth c T' locs' cells slots → T'.heap = h' → Wr h h' a i (.long x') → OAr Z h' a .long n (fun q => if q = i then (.long x') else f q) → Fr n0 locs' → OGo p e below s n0 Q kc ks (T'.setTop (mkF m pc' Ls St))) : OGo p e below s n0 Q kc ks (T.setTop (mkF m pc Ls (.long x :: .int j :: .ref a :: St))) := by
  subst hp hv
  obtain ⟨cl, B, r1, r2, r3, -⟩ := id A
  obtain ⟨q1, q2⟩ := o_idx (c := cl) hj hi r1
  obtain ⟨T', h', X', e', W', st'⟩ := stJ X K.hx K.hZ eT B q1 (g := mkF m pc Ls (.long x :: .int j :: .ref a :: St)) rfl rfl (hb K.hby hd)
  have N' := Fr.snoc X' N ge
  rw [q2] at W'
  exact OGo.st st' (hr T' h' _ X' e' W' (A.same W' (rfl)) N')
theorem o_newarray (X : Stand p l e R s m args below meth c T locs cells slots) (K : OCx p s m meth c Z own nm bytes maxL ret) {aty : ArrayType} {z : Int32} {n : Nat} (hd : decode bytes pc = .ok (.newarray aty, 2)) (pc' : Nat) (hp : pc + 2 = pc') (w : (Jvm.Cond.arrayClass (newarray.typeOf aty)).before a0 Z = true) (eT : T.heap = h) (hz : z.toInt = (n : Int)) (cap : Nat) (hcap : n ≤ cap) (hb8 : cap * 8 ≤ 536870912) (hc : cells + 1 ≤ R.cells) (hl : slots + cap ≤ R.slots)
    (hdv : fits (newarray.typeOf aty) (defaultValue (newarray.typeOf aty)) = true)
    (hr : ∀ T' h' a, a = h.size → Stand p l e R s m args below meth c T' locs (cells + 1) (slots + cap) → T'.heap = h' → Ext h h' → OAr Z h' a (newarray.typeOf aty) n (fun _ => defaultValue (newarray.typeOf aty)) → OGo p e below s n0 Q kc ks (T'.setTop (mkF m pc' Ls (.ref a :: St)))) : OGo p e below s n0 Q kc ks (T.setTop (mkF m pc Ls (.int z :: St))) := by
  subst hp
  have e1 : z.toNatClampNeg = n := by rw [← Int32.toNat_toInt, hz]; rfl
  have hneg : ¬ z < 0 := by
    rw [Int32.lt_iff_toInt_lt, hz]
    have : (0 : Int32).toInt = 0 := rfl
    omega
  obtain ⟨T', h', cA, X', e', E', A', st'⟩ := newP X K.hx K.hZ w eT (g := mkF m pc Ls (.int z :: St)) rfl (hb K.hby hd) rfl hneg (cap := cap) (by omega) hb8 hc hl
  refine OGo.st st' (hr T' h' _ rfl X' e' E' ⟨_, A', (sz_new _ _ _).trans e1, ?_, fun j hj => ?_, fun j _ => hdv⟩)
  · have := (rng32 z).2
    omega
  · simp [newA, e1, hj]
theorem o_anewarray (X : Stand p l e R s m args below meth c T locs cells slots) (K : OCx p s m meth c Z own nm bytes maxL ret) {C : String} {index : Nat} {z : Int32} {n : Nat} (hd : decode bytes pc = .ok (.anewarray index, 3)) (pc' : Nat) (hp : pc + 3 = pc') (w1 : (Jvm.Cond.classLink own index C).before a0 Z = true) (w2 : (Jvm.Cond.arrayOver (.object C)).before a0 Z = true) (eT : T.heap = h) (hz : z.toInt = (n : Int)) (cap : Nat) (hcap : n ≤ cap) (hb8 : cap * 8 ≤ 536870912) (hc : cells + 1 ≤ R.cells) (hl : slots + cap ≤ R.slots)
    (hr : ∀ T' h' a, a = h.size → Stand p l e R s m args below meth c T' locs (cells + 1) (slots + cap) → T'.heap = h' → Ext h h' → OAr Z h' a (.object C) n (fun _ => .null) → (∃ cl : Cell, h'[a]? = some cl ∧ Ovr Z cl.cls C) → OGo p e below s n0 Q kc ks (T'.setTop (mkF m pc' Ls (.ref a :: St)))) : OGo p e below s n0 Q kc ks (T.setTop (mkF m pc Ls (.int z :: St))) := by
  subst hp
  have e1 : z.toNatClampNeg = n := by rw [← Int32.toNat_toInt, hz]; rfl
  have hneg : ¬ z < 0 := by
    rw [Int32.lt_iff_toInt_lt, hz]
    have : (0 : Int32).toInt = 0 := rfl
    omega
  obtain ⟨T', h', cA, X', e', E', A', O', st'⟩ := newR X K.hx K.hZ K.hown w1 w2 eT (g := mkF m pc Ls (.int z :: St)) rfl (hb K.hby hd) rfl hneg (cap := cap) (by omega) hb8 hc hl
  refine OGo.st st' (hr T' h' _ rfl X' e' E' ⟨_, A', (sz_new _ _ _).trans e1, ?_, fun j hj => ?_, fun j _ => rfl⟩ ⟨_, A'.1, O'⟩)
  · have := (rng32 z).2
    omega
  · simp [newA, e1, hj, defaultValue]
theorem o_new (X : Stand p l e R s m args below meth c T locs cells slots) (K : OCx p s m meth c Z own nm bytes maxL ret) {C : String} {index k : Nat} (hd : decode bytes pc = .ok (.new index, 3)) (pc' : Nat) (hp : pc + 3 = pc') (w : (Jvm.Cond.classLink own index C).before a0 Z = true) (wi : (Jvm.Cond.instantiable C k).before a0 Z = true) (wz : (Jvm.Cond.initialized C).before a0 Z = true) (eT : T.heap = h) (hc : cells + 1 ≤ R.cells) (hl : slots + k ≤ R.slots)
    (hr : ∀ T' h' a, a = h.size → Stand p l e R s m args below meth c T' locs (cells + 1) (slots + k) → T'.heap = h' → Ext h h' → Exa Z h' a C → (∀ {O nm d : String} {ty : FieldType}, Laid Z a0 C O nm d → parseFieldDescriptor d = some ty → Fld Z h' a O nm d (defaultValue ty)) → OGo p e below s n0 Q kc ks (T'.setTop (mkF m pc' Ls (.ref a :: St)))) : OGo p e below s n0 Q kc ks (T.setTop (mkF m pc Ls St)) := by
  subst hp
  obtain ⟨T', h', X', e', E', A', D', -, st'⟩ := newO X K.hx K.hZ K.hown w wi wz eT (g := mkF m pc Ls St) rfl (hb K.hby hd) hc hl
  exact OGo.st st' (hr T' h' _ rfl X' e' E' A' D')
theorem o_initO (X : Stand p l e R s m args below meth c T locs cells slots) (K : OCx p s m meth c Z own nm bytes maxL ret) {idx : Nat} {a : Addr} (hd : decode bytes pc = .ok (.invokespecial idx, 3)) (pc' : Nat) (hp : pc + 3 = pc') (w1 : (Jvm.Cond.methodLink own idx Lib.objectInit).before a0 Z = true) (w2 : (Jvm.Cond.instanceMethod Lib.objectInit).before a0 Z = true) (w3 : (Jvm.Cond.code Lib.objectInit ⟨#[0xb1]⟩ 1 none).before a0 Z = true) (eT : T.heap = h) (hsz : Ls.size = maxL)
    (hf : 1 ≤ R.frames) (W : Nat) (hW : (St.map fun v => v.category).sum ≤ W) (hl : W + 12 ≤ R.locals) (hr : ∀ T', Stand p l e R s m args below meth c T' locs cells slots → T'.heap = h → OGo p e below s n0 Q kc ks (T'.setTop (mkF m pc' Ls St))) : OGo p e below s n0 Q kc ks (T.setTop (mkF m pc Ls (.ref a :: St))) := by
  subst hp
  obtain ⟨T', X', e', st'⟩ := initO X K.hx K.hZ K.hown w1 w2 w3 eT (g := mkF m pc Ls (.ref a :: St)) rfl (by rw [K.hml]; exact hsz) rfl (hb K.hby hd) hf (W := W) (by show 2 * 0 + _ ≤ _; omega) hl
  exact OGo.st st' (hr T' X' e')
theorem o_getfield (X : Stand p l e R s m args below meth c T locs cells slots) (K : OCx p s m meth c Z own nm bytes maxL ret) {index : Nat} {R0 O n d host : String} {a : Addr} {v : Value} (hd : decode bytes pc = .ok (.getfield index, 3)) (pc' : Nat) (hp : pc + 3 = pc') (w : (Jvm.Cond.fieldLink own index R0 n d).before a0 Z = true ∨ (Jvm.Cond.fieldLinkNest own index R0 n d host).before a0 Z = true) (via : Via Z R0 O n d) (eT : T.heap = h) (F : Fld Z h a O n d v)
    (hr : ∀ T', Stand p l e R s m args below meth c T' locs cells slots → T'.heap = h → OGo p e below s n0 Q kc ks (T'.setTop (mkF m pc' Ls (v :: St)))) : OGo p e below s n0 Q kc ks (T.setTop (mkF m pc Ls (.ref a :: St))) := by
  subst hp
  obtain ⟨T', X', e', st'⟩ := getF X K.hx K.hZ K.hown w via eT F (g := mkF m pc Ls (.ref a :: St)) rfl rfl (hb K.hby hd)
  exact OGo.st st' (hr T' X' e')
theorem o_getstatic (X : Stand p l e R s m args below meth c T locs cells slots) (K : OCx p s m meth c Z own nm bytes maxL ret) {index : Nat} {R0 O n d host : String} {v : Value} (hd : decode bytes pc = .ok (.getstatic index, 3)) (pc' : Nat) (hp : pc + 3 = pc') (w : (Jvm.Cond.fieldLink own index R0 n d).before a0 Z = true ∨ (Jvm.Cond.fieldLinkNest own index R0 n d host).before a0 Z = true) (via : Via Z R0 O n d) (eT : T.heap = h) (F : Sta Z h O n d v)
    (hr : ∀ T', Stand p l e R s m args below meth c T' locs cells slots → T'.heap = h → OGo p e below s n0 Q kc ks (T'.setTop (mkF m pc' Ls (v :: St)))) : OGo p e below s n0 Q kc ks (T.setTop (mkF m pc Ls St)) := by
  subst hp
  obtain ⟨T', X', e', st'⟩ := getS2 X K.hx K.hZ K.hown w via eT F (g := mkF m pc Ls St) rfl (hb K.hby hd)
  exact OGo.st st' (hr T' X' e')
theorem o_putfield (X : Stand p l e R s m args below meth c T locs cells slots) (K : OCx p s m meth c Z own nm bytes maxL ret) {index kk : Nat} {R0 O n d host C : String} {a : Addr} {v old : Value} {ty : FieldType} (hd : decode bytes pc = .ok (.putfield index, 3)) (pc' : Nat) (hp : pc + 3 = pc') (w : (Jvm.Cond.fieldLink own index R0 n d).before a0 Z = true ∨ (Jvm.Cond.fieldLinkNest own index R0 n d host).before a0 Z = true) (via : Via Z R0 O n d) (eT : T.heap = h) (F : Fld Z h a O n d old) (E : Exa Z h a C)
    (L : (Jvm.Cond.lays C O n d).before a0 Z = true ∨ ((Jvm.Cond.laysFinal C O n d).before a0 Z = true ∧ own = O ∧ nm = "<init>")) (wi : (Jvm.Cond.instantiable C kk).before a0 Z = true) (hty : parseFieldDescriptor d = some ty) (hn : narrow ty v = v) (hf : fits ty v = true) (N : Fr n0 locs) (ge : n0 ≤ a)
    (hr : ∀ T' h' locs', Stand p l e R s m args below meth c T' locs' cells slots → T'.heap = h' → Wr h h' a (Jvm.RoadKit.slotOf Z O n d) v → Fr n0 locs' → OGo p e below s n0 Q kc ks (T'.setTop (mkF m pc' Ls St))) : OGo p e below s n0 Q kc ks (T.setTop (mkF m pc Ls (v :: .ref a :: St))) := by
  subst hp
  obtain ⟨T', h', X', e', W', st'⟩ := putF X K.hx K.hZ K.hown w via eT F E (L.imp id fun q => ⟨q.1, q.2.1, K.hnm.trans q.2.2⟩) wi hty hn hf (g := mkF m pc Ls (v :: .ref a :: St)) rfl rfl (hb K.hby hd)
  exact OGo.st st' (hr T' h' _ X' e' W' (Fr.snoc X' N ge))
theorem o_putfieldN (X : Stand p l e R s m args below meth c T locs cells slots) (K : OCx p s m meth c Z own nm bytes maxL ret) {index kk : Nat} {R0 O n d C : String} {a : Addr} {v v' old : Value} {ty : FieldType} (hd : decode bytes pc = .ok (.putfield index, 3)) (pc' : Nat) (hp : pc + 3 = pc') (w : (Jvm.Cond.fieldLink own index R0 n d).before a0 Z = true) (via : Via Z R0 O n d) (eT : T.heap = h) (F : Fld Z h a O n d old) (E : Exa Z h a C)
    (L : (Jvm.Cond.lays C O n d).before a0 Z = true ∨ ((Jvm.Cond.laysFinal C O n d).before a0 Z = true ∧ own = O ∧ nm = "<init>")) (wi : (Jvm.Cond.instantiable C kk).before a0 Z = true) (hty : parseFieldDescriptor d = some ty) (hn : narrow ty v = v') (hf : fits ty v' = true) (N : Fr n0 locs) (ge : n0 ≤ a)
    (hr : ∀ T' h' locs', Stand p l e R s m args below meth c T' locs' cells slots → T'.heap = h' → Wr h h' a (Jvm.RoadKit.slotOf Z O n d) v' → Fr n0 locs' → OGo p e below s n0 Q kc ks (T'.setTop (mkF m pc' Ls St))) : OGo p e below s n0 Q kc ks (T.setTop (mkF m pc Ls (v :: .ref a :: St))) := by
  subst hp
  obtain ⟨T', h', X', e', W', st'⟩ := putFN X K.hx K.hZ K.hown w via eT F E (L.imp id fun q => ⟨q.1, q.2.1, K.hnm.trans q.2.2⟩) wi hty hn hf (g := mkF m pc Ls (v :: .ref a :: St)) rfl rfl (hb K.hby hd)
  exact OGo.st st' (hr T' h' _ X' e' W' (Fr.snoc X' N ge))
theorem o_invokestatic (X : Stand p l e R s m args below meth c T locs cells slots) (K : OCx p s m meth c Z own nm bytes maxL ret) {index : Nat} {y : MethodName} {bytes' : ByteArray} {maxL' : Nat} {ret' : Option FieldType} {rm : Room} {Q' : Option Value → Heap → Prop} (hd : decode bytes pc = .ok (.invokestatic index, 3)) (pc' : Nat) (hp : pc + 3 = pc') (w1 : (Jvm.Cond.methodLink own index y).before a0 Z = true) (w2 : (Jvm.Cond.static y).before a0 Z = true) (w3 : (Jvm.Cond.initialized y.cls).before a0 Z = true) (w4 : (Jvm.Cond.code y bytes' maxL' ret').before a0 Z = true) (hy : y.cls ≠ "java/lang/invoke/MethodHandle" ∧ y.cls ≠ "java/lang/invoke/VarHandle")
    (argsL rest : List Value) (hst : St = argsL.reverse ++ rest) (con : OCon l Z n0 y bytes' maxL' ret' rm argsL.toArray h Q') (eT : T.heap = h) (hsz : Ls.size = maxL) (hlen : ∀ sig, parseMethodDescriptor y.desc = some sig → argsL.length = sig.parameters.length) (hf : rm.frames + 1 ≤ R.frames) (W : Nat) (hW : (rest.map fun v => v.category).sum ≤ W) (hlo : W + (maxL' + 11) + rm.locals ≤ R.locals) (hc : cells + rm.cells ≤ R.cells) (hs : slots + rm.slots ≤ R.slots) (N : Fr n0 locs)
    (hr : ∀ v T' h' locs', Stand p l e R s m args below meth c T' locs' (cells + rm.cells) (slots + rm.slots) → T'.heap = h' → Q' v h' → Fr n0 locs' → OGo p e below s n0 Q kc ks (T'.setTop (mkF m pc' Ls (v.toList ++ rest)))) : OGo p e below s n0 Q kc ks (T.setTop (mkF m pc Ls St)) := by
  subst hp hst
  obtain ⟨v, vm₁, ⟨T', L', k', n'⟩, -, X', ⟨Lc, ⟨hQ, hF⟩, l1, y1, z1⟩, st⟩ := Jvm.LawKit.callS X K.hx K.hown (mvT K.hZ w1) (mvT K.hZ w2) (mvT K.hZ w3) (mvT K.hZ w4) hy (backOf (W := W) (Q := fun v h L => Q' v h ∧ Fr n0 L) (con []) K.hZ w4 w3 hf hlo) (g := mkF m pc Ls (argsL.reverse ++ rest)) rfl (by rw [K.hml]; exact hsz) (argsL := argsL) (rest := rest) hlen rfl (by show 2 * 0 + _ ≤ _; omega) (hb K.hby hd) (fun _ _ => ⟨rfl, eT, hc, hs⟩)
  dsimp only [Pt.U, Pt.locs, Pt.cells, Pt.slots] at X' l1 y1 z1 st hQ
  subst l1 y1 z1
  exact OGo.st st (hr v T' _ _ X' rfl hQ (Fr.app N hF))
theorem o_invokespecial (X : Stand p l e R s m args below meth c T locs cells slots) (K : OCx p s m meth c Z own nm bytes maxL ret) {index : Nat} {y : MethodName} {bytes' : ByteArray} {maxL' : Nat} {rm : Room} {Q' : Option Value → Heap → Prop} {a : Addr} (hd : decode bytes pc = .ok (.invokespecial index, 3)) (pc' : Nat) (hp : pc + 3 = pc') (hy1 : y.name = "<init>") (w1 : (Jvm.Cond.methodLink own index y).before a0 Z = true) (w2 : (Jvm.Cond.instanceMethod y).before a0 Z = true) (w3 : (Jvm.Cond.initialized y.cls).before a0 Z = true) (w4 : (Jvm.Cond.code y bytes' maxL' none).before a0 Z = true) (hy : y.cls ≠ "java/lang/invoke/MethodHandle" ∧ y.cls ≠ "java/lang/invoke/VarHandle")
    (argsL rest : List Value) (hst : St = argsL.reverse ++ .ref a :: rest) (con : OCon l Z n0 y bytes' maxL' none rm (.ref a :: argsL).toArray h Q') (eT : T.heap = h) (hsz : Ls.size = maxL) (hlen : ∀ sig, parseMethodDescriptor y.desc = some sig → argsL.length = sig.parameters.length) (hf : rm.frames + 1 ≤ R.frames) (W : Nat) (hW : (rest.map fun v => v.category).sum ≤ W) (hlo : W + (maxL' + 11) + rm.locals ≤ R.locals) (hc : cells + rm.cells ≤ R.cells) (hs : slots + rm.slots ≤ R.slots) (N : Fr n0 locs)
    (hr : ∀ v T' h' locs', Stand p l e R s m args below meth c T' locs' (cells + rm.cells) (slots + rm.slots) → T'.heap = h' → Q' v h' → Fr n0 locs' → OGo p e below s n0 Q kc ks (T'.setTop (mkF m pc' Ls (v.toList ++ rest)))) : OGo p e below s n0 Q kc ks (T.setTop (mkF m pc Ls St)) := by
  subst hp hst
  obtain ⟨v, vm₁, ⟨T', L', k', n'⟩, -, X', ⟨Lc, ⟨hQ, hF⟩, l1, y1, z1⟩, st⟩ := X.specialBack K.hx hy1 K.hown (mvT K.hZ w1) (mvT K.hZ w2) (mvT K.hZ w4) hy (backOf (W := W) (Q := fun v h L => Q' v h ∧ Fr n0 L) (con []) K.hZ w4 w3 hf hlo) (g := mkF m pc Ls (argsL.reverse ++ .ref a :: rest)) rfl (by rw [K.hml]; exact hsz) (Steps.refl _) (argsL := argsL) (rest := rest) hlen rfl (by show 2 * 0 + _ ≤ _; omega) (hb K.hby hd) (fun _ _ => ⟨rfl, eT, hc, hs⟩)
  dsimp only [Pt.U, Pt.locs, Pt.cells, Pt.slots] at X' l1 y1 z1 st hQ
  subst l1 y1 z1
  exact OGo.st (fun t k => st.trans k) (hr v T' _ _ X' rfl hQ (Fr.app N hF))
theorem o_invokevirtual (X : Stand p l e R s m args below meth c T locs cells slots) (K : OCx p s m meth c Z own nm bytes maxL ret) {index : Nat} {y : MethodName} {bytes' : ByteArray} {maxL' : Nat} {ret' : Option FieldType} {rm : Room} {Q' : Option Value → Heap → Prop} {C : String} {a : Addr} (hd : decode bytes pc = .ok (.invokevirtual index, 3)) (pc' : Nat) (hp : pc + 3 = pc') (w1 : (Jvm.Cond.methodLink own index y).before a0 Z = true) (w2 : (Jvm.Cond.declares y).before a0 Z = true) (wsel : (Jvm.Cond.selects C y y).before a0 Z = true) (w5 : (Jvm.Cond.instanceMethod y).before a0 Z = true) (w3 : (Jvm.Cond.initialized y.cls).before a0 Z = true) (w4 : (Jvm.Cond.code y bytes' maxL' ret').before a0 Z = true) (hy : y.cls ≠ "java/lang/invoke/MethodHandle" ∧ y.cls ≠ "java/lang/invoke/VarHandle")
    (E : Exa Z h a C) (argsL rest : List Value) (hst : St = argsL.reverse ++ .ref a :: rest) (con : OCon l Z n0 y bytes' maxL' ret' rm (.ref a :: argsL).toArray h Q') (eT : T.heap = h) (hsz : Ls.size = maxL) (hlen : ∀ sig, parseMethodDescriptor y.desc = some sig → argsL.length = sig.parameters.length) (hf : rm.frames + 1 ≤ R.frames) (W : Nat) (hW : (rest.map fun v => v.category).sum ≤ W) (hlo : W + (maxL' + 11) + rm.locals ≤ R.locals) (hc : cells + rm.cells ≤ R.cells) (hs : slots + rm.slots ≤ R.slots) (N : Fr n0 locs)
    (hr : ∀ v T' h' locs', Stand p l e R s m args below meth c T' locs' (cells + rm.cells) (slots + rm.slots) → T'.heap = h' → Q' v h' → Fr n0 locs' → OGo p e below s n0 Q kc ks (T'.setTop (mkF m pc' Ls (v.toList ++ rest)))) : OGo p e below s n0 Q kc ks (T.setTop (mkF m pc Ls St)) := by
  subst hp hst
  obtain ⟨cq, kq, qa, qb, qc⟩ := isOf K.hZ eT E
  obtain ⟨v, vm₁, ⟨T', L', k', n'⟩, -, X', ⟨Lc, ⟨hQ, hF⟩, l1, y1, z1⟩, st⟩ := X.virtualBack K.hx K.hown (mvT K.hZ w1) (mvT K.hZ w2) (notFace_of_selects (args := #[]) (mvT K.hZ wsel)) (mvT K.hZ wsel) (mvT K.hZ w5) hy (backOf (W := W) (Q := fun v h L => Q' v h ∧ Fr n0 L) (con []) K.hZ w4 w3 hf hlo) qa qc (g := mkF m pc Ls (argsL.reverse ++ .ref a :: rest)) rfl (by rw [K.hml]; exact hsz) (Steps.refl _) (argsL := argsL) (rest := rest) hlen rfl (by show 2 * 0 + _ ≤ _; omega) (hb K.hby hd) (fun _ _ => ⟨rfl, eT, hc, hs⟩)
  dsimp only [Pt.U, Pt.locs, Pt.cells, Pt.slots] at X' l1 y1 z1 st hQ
  subst l1 y1 z1
  exact OGo.st (fun t k => st.trans k) (hr v T' _ _ X' rfl hQ (Fr.app N hF))
theorem o_nb (x : Int32) : nar .byte (x.toInt8.toInt32) = x.toInt8.toInt32 := by
  show x.toInt8.toInt32.toInt8.toInt32 = _
  simp
theorem o_join {α : Type} (F : α → State) (P : α → Prop) {S : State} (hgo : (∀ b, P b → OGo p e below s n0 Q kc ks (F b)) → OGo p e below s n0 Q kc ks S) (hrest : ∀ b, P b → OGo p e below s n0 Q kc ks (F b)) : OGo p e below s n0 Q kc ks S := hgo hrest
theorem o_ind {α : Type} (F : α → State) (Inv : Nat → α → Prop) (hz : ∀ a, Inv 0 a → OGo p e below s n0 Q kc ks (F a)) (hs : ∀ d, (∀ a, Inv d a → OGo p e below s n0 Q kc ks (F a)) → ∀ a, Inv (d + 1) a → OGo p e below s n0 Q kc ks (F a)) (d : Nat) (a : α) (i : Inv d a) : OGo p e below s n0 Q kc ks (F a) := by
  induction d generalizing a with
  | zero => exact hz a i
  | succ d ih => exact hs d ih a i
theorem o_sta_keep {C n d : String} {v : Value} {ws : List Addr} (F : Sta Z h C n d v) (k : Keep h h' ws) (q : ∀ x ∈ ws, ∀ cell : Cell, h[x]? = some cell → cell.vm.isStatics = false) : Sta Z h' C n d v := by
  obtain ⟨cf, i, kk, f, st, cell, h1, h2, h3, h4, h5, h6, h7⟩ := F
  refine ⟨cf, i, kk, f, st, cell, h1, h2, h3, h4, k.2.1 _ _ h5 (fun z => ?_), h6, h7⟩
  rw [q st z cell h5] at h6
  cases h6
theorem o_nat {n : Nat} (h : n < 2147483648) : (n.toInt32).toNatClampNeg = n := by
  rw [← Int32.toNat_toInt, o_len h]
  rfl
theorem o_getD {n i : Nat} {f : Nat → Value} {d : Value} (h : i < n) : ((List.range n).map f).getD i d = f i := by
  simp [List.getD_eq_getElem?_getD, h]
theorem OAr.arv {a : Addr} {ty : FieldType} {n : Nat} {f : Nat → Value} (A : OAr Z h a ty n f) (dv : Value) : ∃ k, Arv Z h a k ty n.toInt32 ((List.range n).map f) dv := by
  obtain ⟨cl, A, r1, r2, r3, r4⟩ := A
  refine ⟨cl.cls, cl, A, rfl, by rw [r1, o_nat r2], ?_, fun k hk => ?_, fun i hi => ?_⟩
  · rw [Int32.lt_iff_toInt_lt, o_len r2]
    have : (0 : Int32).toInt = 0 := rfl
    omega
  · rw [o_getD (by omega)]
    exact r3 k (by omega)
  · rw [o_getD (by omega)]
    exact r4 i (by omega)
theorem OAr.of_arv {a : Addr} {k : ClassId} {ty : FieldType} {n : Nat} {vs : List Value} {dv : Value} {f : Nat → Value} (hn : n < 2147483648) (A : Arv Z h a k ty n.toInt32 vs dv) (q : ∀ j, j < n → vs.getD j dv = f j) : OAr Z h a ty n f := by
  obtain ⟨cl, A, -, r1, -, r3, r4⟩ := A
  rw [o_nat hn] at r1
  refine ⟨cl, A, r1, hn, fun j hj => ?_, fun j hj => ?_⟩
  · rw [← q j hj]
    exact r3 j (by omega)
  · rw [← q j hj]
    exact r4 j (by omega)
theorem OAr.of_arh {a : Addr} {k : ClassId} {ty : FieldType} {n : Nat} {vs : List Value} {dv : Value} {f : Nat → Value} (hn : n < 2147483648) (A : Arh Z h a k ty n.toInt32 [] vs dv) (q : ∀ j, j < n → vs.getD j dv = f j) : OAr Z h a ty n f := by
  obtain ⟨cl, A, -, r1, -, r3, r4⟩ := A
  rw [o_nat hn] at r1
  refine ⟨cl, A, r1, hn, fun j hj => ?_, fun j hj => ?_⟩
  · rw [← q j hj]
    exact r3 j (by omega)
  · rw [← q j hj]
    exact r4 j (by omega)
theorem o_splice {n' i j k : Nat} {f g : Nat → Value} {dd : Value} (h5 : j + k ≤ n') (q : Nat) (hq : q < n') : (((List.range n').map g).take j ++ (List.range k).map (fun z => f (i + z)) ++ ((List.range n').map g).drop (j + k)).getD q dd = if j ≤ q ∧ q < j + k then f (i + (q - j)) else g q := by
  rw [List.getD_eq_getElem?_getD]
  by_cases h1 : q < j
  · rw [if_neg (by omega), List.append_assoc, List.getElem?_append_left (by simp; omega)]
    simp [List.getElem?_take, h1, hq]
  · by_cases h2 : q < j + k
    · rw [if_pos ⟨by omega, h2⟩, List.append_assoc, List.getElem?_append_right (by simp; omega), List.getElem?_append_left (by simp; omega)]
      have e : min j n' = j := by omega
      have h3 : q - j < k := by omega
      simp [e, h3]
    · rw [if_neg (by omega), List.getElem?_append_right (by simp; omega)]
      have e : min j n' = j := by omega
      have e2 : j + k + (q - (j + k)) = q := by omega
      simp [List.getElem?_drop, e, e2, hq]
theorem o_arraycopy (X : Stand p l e R s m args below meth c T locs cells slots) (K : OCx p s m meth c Z own nm bytes maxL ret) {index : Nat} {a b : Addr} {n n' : Nat} {f g : Nat → Value} {ty : FieldType} {sp dp nn : Int32} {i j k : Nat} (hd : decode bytes pc = .ok (.invokestatic index, 3)) (pc' : Nat) (hp : pc + 3 = pc') (w1 : (Jvm.Cond.methodLink own index Jvm.Stand.acN).before a0 Z = true) (w2 : (Jvm.Cond.native Jvm.Stand.acN).before a0 Z = true) (w3 : (Jvm.Cond.static Jvm.Stand.acN).before a0 Z = true) (w4 : (Jvm.Cond.initialized "java/lang/System").before a0 Z = true) (eT : T.heap = h)
    (A : OAr Z h a ty n f) (B : OAr Z h b ty n' g) (hty : refKind ty = false) (h1 : sp.toInt = (i : Int)) (h2 : dp.toInt = (j : Int)) (h3 : nn.toInt = (k : Int)) (h4 : i + k ≤ n) (h5 : j + k ≤ n') (N : Fr n0 locs) (ge : n0 ≤ b) (hsz : Ls.size = maxL) (hf : 1 ≤ R.frames) (W : Nat) (hW : (St.map fun v => v.category).sum ≤ W) (hlo : W + (nativeFrameWords "java/lang/System" "arraycopy" 5 + 11) ≤ R.locals)
    (hr : ∀ T' h' locs', Stand p l e R s m args below meth c T' locs' cells slots → T'.heap = h' → Keep h h' [b] → OAr Z h' b ty n' (fun q => if j ≤ q ∧ q < j + k then f (i + (q - j)) else g q) → Fr n0 locs' → OGo p e below s n0 Q kc ks (T'.setTop (mkF m pc' Ls St))) : OGo p e below s n0 Q kc ks (T.setTop (mkF m pc Ls (.int nn :: .int dp :: .ref b :: .int sp :: .ref a :: St))) := by
  subst hp
  have c1 : sp.toNatClampNeg = i := by rw [← Int32.toNat_toInt, h1]; rfl
  have c2 : dp.toNatClampNeg = j := by rw [← Int32.toNat_toInt, h2]; rfl
  have c3 : nn.toNatClampNeg = k := by rw [← Int32.toNat_toInt, h3]; rfl
  have z0 : (0 : Int32).toInt = 0 := rfl
  have la := A.len
  have lb := B.len
  obtain ⟨ka, A'⟩ := A.arv .null
  obtain ⟨kb, B'⟩ := B.arv .null
  obtain ⟨T', h', L, X', e', N', K', C', st'⟩ := cpA X K.hx K.hZ K.hown w1 w2 w3 w4 eT (sp := sp) (dp := dp) (nn := nn) (us := (List.range k).map (fun z => f (i + z))) A' B' (Or.inl ⟨rfl, hty⟩) (by rw [Int32.lt_iff_toInt_lt, h1]; omega) (by rw [Int32.lt_iff_toInt_lt, h2]; omega) (by rw [Int32.lt_iff_toInt_lt, h3]; omega) (by rw [c1, c3, o_nat la]; exact h4) (by rw [c2, c3, o_nat lb]; exact h5)
    (by rw [c1, c3]; exact List.map_congr_left fun z hz => (o_getD (by have := List.mem_range.mp hz; omega)).symm) (by rw [c2, c3]; simp; exact h5) N ge (g := mkF m pc Ls (.int nn :: .int dp :: .ref b :: .int sp :: .ref a :: St)) rfl (by rw [K.hml]; exact hsz) rfl (hb K.hby hd) hf (W := W) (by show 2 * 0 + _ ≤ _; omega) hlo
  rw [c2, c3] at C'
  exact OGo.st st' (hr T' h' L X' e' K' (OAr.of_arv lb C' (fun q hq => o_splice h5 q hq)) N')
theorem o_clone (X : Stand p l e R s m args below meth c T locs cells slots) (K : OCx p s m meth c Z own nm bytes maxL ret) {index : Nat} {ad : String} {a : Addr} {n : Nat} {f : Nat → Value} {ty : FieldType} (hd : decode bytes pc = .ok (.invokevirtual index, 3)) (pc' : Nat) (hp : pc + 3 = pc') (w1 : (Jvm.Cond.methodLink own index ⟨ad, "clone", "()Ljava/lang/Object;"⟩).before a0 Z = true) (w2 : (Jvm.Cond.sameMethod ad "java/lang/Object" "clone" "()Ljava/lang/Object;").before a0 Z = true) (w3 : (Jvm.Cond.native ⟨"java/lang/Object", "clone", "()Ljava/lang/Object;"⟩).before a0 Z = true)
    (w4 : (Jvm.Cond.instanceMethod ⟨"java/lang/Object", "clone", "()Ljava/lang/Object;"⟩).before a0 Z = true) (w5 : (Jvm.Cond.selects ad ⟨ad, "clone", "()Ljava/lang/Object;"⟩ ⟨"java/lang/Object", "clone", "()Ljava/lang/Object;"⟩).before a0 Z = true) (w6 : (Jvm.Cond.castable ad "java/lang/Cloneable").before a0 Z = true)
    (eT : T.heap = h) (A : OAr Z h a ty n f) (E : Exa Z h a ad) (hsz : Ls.size = maxL) (hf : 1 ≤ R.frames) (W cap : Nat) (hW : (St.map fun v => v.category).sum ≤ W) (hl : W + 14 ≤ R.locals) (hcap : n ≤ cap) (hc : cells + 1 ≤ R.cells) (hsl : slots + cap ≤ R.slots)
    (hr : ∀ T' h' b, b = h.size → Stand p l e R s m args below meth c T' locs (cells + 1) (slots + cap) → T'.heap = h' → Ext h h' → OAr Z h' b ty n f → Exa Z h' b ad → OGo p e below s n0 Q kc ks (T'.setTop (mkF m pc' Ls (.ref b :: St)))) : OGo p e below s n0 Q kc ks (T.setTop (mkF m pc Ls (.ref a :: St))) := by
  subst hp
  have la := A.len
  obtain ⟨ka, A'⟩ := A.arv .null
  obtain ⟨T', h', X', e', E', C', D', st'⟩ := cloneH X K.hx K.hZ K.hown w1 w2 w3 w4 w5 w6 eT A'.arh E (g := mkF m pc Ls (.ref a :: St)) rfl (by rw [K.hml]; exact hsz) rfl (hb K.hby hd) hf (W := W) (cap := cap) (by show 2 * 0 + _ ≤ _; omega) hl (by rw [o_nat la]; exact hcap) hc hsl
  exact OGo.st st' (hr T' h' _ rfl X' e' E' (OAr.of_arh la C' (fun q hq => o_getD hq)) D')
theorem o_checkcast (X : Stand p l e R s m args below meth c T locs cells slots) (K : OCx p s m meth c Z own nm bytes maxL ret) {index : Nat} {C : String} {a : Addr} (hd : decode bytes pc = .ok (.checkcast index, 3)) (pc' : Nat) (hp : pc + 3 = pc') (w : (Jvm.Cond.classLink own index C).before a0 Z = true) (eT : T.heap = h) (F : Ins Z h a C true)
    (hr : ∀ T', Stand p l e R s m args below meth c T' locs cells slots → T'.heap = h → OGo p e below s n0 Q kc ks (T'.setTop (mkF m pc' Ls (.ref a :: St)))) : OGo p e below s n0 Q kc ks (T.setTop (mkF m pc Ls (.ref a :: St))) := by
  subst hp
  obtain ⟨T', X', e', st'⟩ := castY X K.hx K.hZ K.hown w eT F (g := mkF m pc Ls (.ref a :: St)) rfl rfl (hb K.hby hd)
  exact OGo.st st' (hr T' X' e')
theorem o_invokeprivate (X : Stand p l e R s m args below meth c T locs cells slots) (K : OCx p s m meth c Z own nm bytes maxL ret) {index : Nat} {y : MethodName} {bytes' : ByteArray} {maxL' : Nat} {ret' : Option FieldType} {rm : Room} {Q' : Option Value → Heap → Prop} {a : Addr} {C : String} (hd : decode bytes pc = .ok (.invokevirtual index, 3)) (pc' : Nat) (hp : pc + 3 = pc') (w1 : (Jvm.Cond.methodLink own index y).before a0 Z = true) (w2 : (Jvm.Cond.instanceMethod y).before a0 Z = true) (wp : (Jvm.Cond.privateMethod y).before a0 Z = true) (w3 : (Jvm.Cond.initialized y.cls).before a0 Z = true) (w4 : (Jvm.Cond.code y bytes' maxL' ret').before a0 Z = true) (hy : y.cls ≠ "java/lang/invoke/MethodHandle" ∧ y.cls ≠ "java/lang/invoke/VarHandle") (wi : ∃ k, (Jvm.Cond.instantiable y.cls k).before a0 Z = true)
    (E : Exa Z h a C) (argsL rest : List Value) (hst : St = argsL.reverse ++ .ref a :: rest) (con : OCon l Z n0 y bytes' maxL' ret' rm (.ref a :: argsL).toArray h Q') (eT : T.heap = h) (hsz : Ls.size = maxL) (hlen : ∀ sig, parseMethodDescriptor y.desc = some sig → argsL.length = sig.parameters.length) (hf : rm.frames + 1 ≤ R.frames) (W : Nat) (hW : (rest.map fun v => v.category).sum ≤ W) (hlo : W + (maxL' + 11) + rm.locals ≤ R.locals) (hc : cells + rm.cells ≤ R.cells) (hs : slots + rm.slots ≤ R.slots) (N : Fr n0 locs)
    (hr : ∀ v T' h' locs', Stand p l e R s m args below meth c T' locs' (cells + rm.cells) (slots + rm.slots) → T'.heap = h' → Q' v h' → Fr n0 locs' → OGo p e below s n0 Q kc ks (T'.setTop (mkF m pc' Ls (v.toList ++ rest)))) : OGo p e below s n0 Q kc ks (T.setTop (mkF m pc Ls St)) := by
  subst hp hst
  obtain ⟨cell, hcell, hobj⟩ := E.cell
  obtain ⟨kk, wi⟩ := wi
  have hpriv : s.PrivateAt y := Cond.privateMethod_at (mvP K.hZ wp (args := #[]))
  have wi' : (Jvm.Cond.instantiable y.cls kk).before args s = true := mvT K.hZ wi
  obtain ⟨cI, kI, i1, i2, i3, i4⟩ := Cond.instantiable_spec wi'
  have hsel : (Jvm.Cond.selects y.cls y y).before args s = true := selects_self_of_private i1 i2 (Bool.or_eq_false_iff.mp i4.1).1 hpriv (mvT K.hZ w2) hy
  obtain ⟨v, vm₁, ⟨T', L', k', n'⟩, -, X', ⟨Lc, ⟨hQ, hF⟩, l1, y1, z1⟩, st⟩ := X.privateBack K.hx K.hown (mvT K.hZ w1) (mvT K.hZ w2) hsel hpriv (mvT K.hZ w4) hy (backOf (W := W) (Q := fun v h L => Q' v h ∧ Fr n0 L) (con []) K.hZ w4 w3 hf hlo) (g := mkF m pc Ls (argsL.reverse ++ .ref a :: rest)) rfl (by rw [K.hml]; exact hsz) (Steps.refl _) (a := a) (by rw [eT]; exact hcell) hobj (argsL := argsL) (rest := rest) hlen rfl (by show 2 * 0 + _ ≤ _; omega) (hb K.hby hd) (fun _ _ => ⟨rfl, eT, hc, hs⟩)
  dsimp only [Pt.U, Pt.locs, Pt.cells, Pt.slots] at X' l1 y1 z1 st hQ
  subst l1 y1 z1
  exact OGo.st (fun t k => st.trans k) (hr v T' _ _ X' rfl hQ (Fr.app N hF))
abbrev OW (Z : State) (a0 : Array Value) : Prop := ∀ d ∈ tables_1, d.before a0 Z = true
end Own
set_option maxRecDepth 65536
theorem w_0 {Z : State} {a0 : Array Value} (hw : OW Z a0) : (Jvm.Cond.arrayClass Jvm.ClassFile.FieldType.byte).before a0 Z = true := hw _ (List.mem_of_getElem? (i := 0) rfl)
theorem w_1 {Z : State} {a0 : Array Value} (hw : OW Z a0) : (Jvm.Cond.methodLink "com/example/planwright/planwright/census/SipHashHashPinLaw" (7 : Nat) ({ cls := "com/example/planwright/planwright/census/SipHashHashPinLaw", name := "put", desc := "([B[BIJJJIII)V" } : Jvm.MethodName)).before a0 Z = true := hw _ (List.mem_of_getElem? (i := 1) rfl)
theorem w_2 {Z : State} {a0 : Array Value} (hw : OW Z a0) : (Jvm.Cond.static ({ cls := "com/example/planwright/planwright/census/SipHashHashPinLaw", name := "put", desc := "([B[BIJJJIII)V" } : Jvm.MethodName)).before a0 Z = true := hw _ (List.mem_of_getElem? (i := 2) rfl)
theorem w_3 {Z : State} {a0 : Array Value} (hw : OW Z a0) : (Jvm.Cond.initialized "com/example/planwright/planwright/census/SipHashHashPinLaw").before a0 Z = true := hw _ (List.mem_of_getElem? (i := 3) rfl)
theorem w_4 {Z : State} {a0 : Array Value} (hw : OW Z a0) : (Jvm.Cond.code ({ cls := "com/example/planwright/planwright/census/SipHashHashPinLaw", name := "put", desc := "([B[BIJJJIII)V" } : Jvm.MethodName) method_4_code (12 : Nat) (Option.none : Option Jvm.ClassFile.FieldType)).before a0 Z = true := hw _ (List.mem_of_getElem? (i := 4) rfl)
theorem w_5 {Z : State} {a0 : Array Value} (hw : OW Z a0) : (Jvm.Cond.methodLink "com/example/planwright/planwright/census/SipHashHashPinLaw" (30 : Nat) ({ cls := "com/example/planwright/planwright/census/SipHashHashPinLaw", name := "data", desc := "(JJJI)B" } : Jvm.MethodName)).before a0 Z = true := hw _ (List.mem_of_getElem? (i := 5) rfl)
theorem w_6 {Z : State} {a0 : Array Value} (hw : OW Z a0) : (Jvm.Cond.static ({ cls := "com/example/planwright/planwright/census/SipHashHashPinLaw", name := "data", desc := "(JJJI)B" } : Jvm.MethodName)).before a0 Z = true := hw _ (List.mem_of_getElem? (i := 6) rfl)
theorem w_7 {Z : State} {a0 : Array Value} (hw : OW Z a0) : (Jvm.Cond.code ({ cls := "com/example/planwright/planwright/census/SipHashHashPinLaw", name := "data", desc := "(JJJI)B" } : Jvm.MethodName) method_3_code (9 : Nat) (Option.some Jvm.ClassFile.FieldType.byte)).before a0 Z = true := hw _ (List.mem_of_getElem? (i := 7) rfl)
theorem w_8 {Z : State} {a0 : Array Value} (hw : OW Z a0) : (Jvm.Cond.classLink "com/example/planwright/planwright/census/SipHashHashPinLaw" (13 : Nat) "com/example/planwright/planwright/census/SipHash").before a0 Z = true := hw _ (List.mem_of_getElem? (i := 8) rfl)
theorem w_9 {Z : State} {a0 : Array Value} (hw : OW Z a0) : (Jvm.Cond.instantiable "com/example/planwright/planwright/census/SipHash" (6 : Nat)).before a0 Z = true := hw _ (List.mem_of_getElem? (i := 9) rfl)
theorem w_10 {Z : State} {a0 : Array Value} (hw : OW Z a0) : (Jvm.Cond.initialized "com/example/planwright/planwright/census/SipHash").before a0 Z = true := hw _ (List.mem_of_getElem? (i := 10) rfl)
theorem w_11 {Z : State} {a0 : Array Value} (hw : OW Z a0) : (Jvm.Cond.constantLong "com/example/planwright/planwright/census/SipHashHashPinLaw" (15 : Nat) (506097522914230528 : Int64)).before a0 Z = true := hw _ (List.mem_of_getElem? (i := 11) rfl)
theorem w_12 {Z : State} {a0 : Array Value} (hw : OW Z a0) : (Jvm.Cond.constantLong "com/example/planwright/planwright/census/SipHashHashPinLaw" (17 : Nat) (1084818905618843912 : Int64)).before a0 Z = true := hw _ (List.mem_of_getElem? (i := 12) rfl)
theorem w_13 {Z : State} {a0 : Array Value} (hw : OW Z a0) : (Jvm.Cond.methodLink "com/example/planwright/planwright/census/SipHashHashPinLaw" (19 : Nat) ({ cls := "com/example/planwright/planwright/census/SipHash", name := "<init>", desc := "(JJ)V" } : Jvm.MethodName)).before a0 Z = true := hw _ (List.mem_of_getElem? (i := 13) rfl)
theorem w_14 {Z : State} {a0 : Array Value} (hw : OW Z a0) : (Jvm.Cond.instanceMethod ({ cls := "com/example/planwright/planwright/census/SipHash", name := "<init>", desc := "(JJ)V" } : Jvm.MethodName)).before a0 Z = true := hw _ (List.mem_of_getElem? (i := 14) rfl)
theorem w_15 {Z : State} {a0 : Array Value} (hw : OW Z a0) : (Jvm.Cond.code ({ cls := "com/example/planwright/planwright/census/SipHash", name := "<init>", desc := "(JJ)V" } : Jvm.MethodName) prog_20_method_1_code (5 : Nat) (Option.none : Option Jvm.ClassFile.FieldType)).before a0 Z = true := hw _ (List.mem_of_getElem? (i := 15) rfl)
theorem w_16 {Z : State} {a0 : Array Value} (hw : OW Z a0) : (Jvm.Cond.methodLink "com/example/planwright/planwright/census/SipHash" (1 : Nat) ({ cls := "java/lang/Object", name := "<init>", desc := "()V" } : Jvm.MethodName)).before a0 Z = true := hw _ (List.mem_of_getElem? (i := 16) rfl)
theorem w_17 {Z : State} {a0 : Array Value} (hw : OW Z a0) : (Jvm.Cond.instanceMethod ({ cls := "java/lang/Object", name := "<init>", desc := "()V" } : Jvm.MethodName)).before a0 Z = true := hw _ (List.mem_of_getElem? (i := 17) rfl)
theorem w_18 {Z : State} {a0 : Array Value} (hw : OW Z a0) : (Jvm.Cond.code ({ cls := "java/lang/Object", name := "<init>", desc := "()V" } : Jvm.MethodName) object_method_1_code (1 : Nat) (Option.none : Option Jvm.ClassFile.FieldType)).before a0 Z = true := hw _ (List.mem_of_getElem? (i := 18) rfl)
theorem w_19 {Z : State} {a0 : Array Value} (hw : OW Z a0) : (Jvm.Cond.fieldLink "com/example/planwright/planwright/census/SipHash" (7 : Nat) "com/example/planwright/planwright/census/SipHash" "key0" "J").before a0 Z = true := hw _ (List.mem_of_getElem? (i := 19) rfl)
theorem w_20 {Z : State} {a0 : Array Value} (hw : OW Z a0) : (Jvm.Cond.laysFinal "com/example/planwright/planwright/census/SipHash" "com/example/planwright/planwright/census/SipHash" "key0" "J").before a0 Z = true := hw _ (List.mem_of_getElem? (i := 20) rfl)
theorem w_21 {Z : State} {a0 : Array Value} (hw : OW Z a0) : (Jvm.Cond.fieldLink "com/example/planwright/planwright/census/SipHash" (13 : Nat) "com/example/planwright/planwright/census/SipHash" "key1" "J").before a0 Z = true := hw _ (List.mem_of_getElem? (i := 21) rfl)
theorem w_22 {Z : State} {a0 : Array Value} (hw : OW Z a0) : (Jvm.Cond.laysFinal "com/example/planwright/planwright/census/SipHash" "com/example/planwright/planwright/census/SipHash" "key1" "J").before a0 Z = true := hw _ (List.mem_of_getElem? (i := 22) rfl)
theorem w_23 {Z : State} {a0 : Array Value} (hw : OW Z a0) : (Jvm.Cond.methodLink "com/example/planwright/planwright/census/SipHashHashPinLaw" (22 : Nat) ({ cls := "com/example/planwright/planwright/census/SipHash", name := "hash", desc := "([BII)J" } : Jvm.MethodName)).before a0 Z = true := hw _ (List.mem_of_getElem? (i := 23) rfl)
theorem w_24 {Z : State} {a0 : Array Value} (hw : OW Z a0) : (Jvm.Cond.declares ({ cls := "com/example/planwright/planwright/census/SipHash", name := "hash", desc := "([BII)J" } : Jvm.MethodName)).before a0 Z = true := hw _ (List.mem_of_getElem? (i := 24) rfl)
theorem w_25 {Z : State} {a0 : Array Value} (hw : OW Z a0) : (Jvm.Cond.instanceMethod ({ cls := "com/example/planwright/planwright/census/SipHash", name := "hash", desc := "([BII)J" } : Jvm.MethodName)).before a0 Z = true := hw _ (List.mem_of_getElem? (i := 25) rfl)
theorem w_26 {Z : State} {a0 : Array Value} (hw : OW Z a0) : (Jvm.Cond.selects "com/example/planwright/planwright/census/SipHash" ({ cls := "com/example/planwright/planwright/census/SipHash", name := "hash", desc := "([BII)J" } : Jvm.MethodName) ({ cls := "com/example/planwright/planwright/census/SipHash", name := "hash", desc := "([BII)J" } : Jvm.MethodName)).before a0 Z = true := hw _ (List.mem_of_getElem? (i := 26) rfl)
theorem w_27 {Z : State} {a0 : Array Value} (hw : OW Z a0) : (Jvm.Cond.code ({ cls := "com/example/planwright/planwright/census/SipHash", name := "hash", desc := "([BII)J" } : Jvm.MethodName) prog_20_method_2_code (7 : Nat) (Option.some Jvm.ClassFile.FieldType.long)).before a0 Z = true := hw _ (List.mem_of_getElem? (i := 27) rfl)
theorem w_28 {Z : State} {a0 : Array Value} (hw : OW Z a0) : (Jvm.Cond.constantLong "com/example/planwright/planwright/census/SipHash" (16 : Nat) (8317987319222330741 : Int64)).before a0 Z = true := hw _ (List.mem_of_getElem? (i := 28) rfl)
theorem w_29 {Z : State} {a0 : Array Value} (hw : OW Z a0) : (Jvm.Cond.fieldLink "com/example/planwright/planwright/census/SipHash" (18 : Nat) "com/example/planwright/planwright/census/SipHash" "v0" "J").before a0 Z = true := hw _ (List.mem_of_getElem? (i := 29) rfl)
theorem w_30 {Z : State} {a0 : Array Value} (hw : OW Z a0) : (Jvm.Cond.lays "com/example/planwright/planwright/census/SipHash" "com/example/planwright/planwright/census/SipHash" "v0" "J").before a0 Z = true := hw _ (List.mem_of_getElem? (i := 30) rfl)
theorem w_31 {Z : State} {a0 : Array Value} (hw : OW Z a0) : (Jvm.Cond.constantLong "com/example/planwright/planwright/census/SipHash" (21 : Nat) (7237128888997146477 : Int64)).before a0 Z = true := hw _ (List.mem_of_getElem? (i := 31) rfl)
theorem w_32 {Z : State} {a0 : Array Value} (hw : OW Z a0) : (Jvm.Cond.fieldLink "com/example/planwright/planwright/census/SipHash" (23 : Nat) "com/example/planwright/planwright/census/SipHash" "v1" "J").before a0 Z = true := hw _ (List.mem_of_getElem? (i := 32) rfl)
theorem w_33 {Z : State} {a0 : Array Value} (hw : OW Z a0) : (Jvm.Cond.lays "com/example/planwright/planwright/census/SipHash" "com/example/planwright/planwright/census/SipHash" "v1" "J").before a0 Z = true := hw _ (List.mem_of_getElem? (i := 33) rfl)
theorem w_34 {Z : State} {a0 : Array Value} (hw : OW Z a0) : (Jvm.Cond.constantLong "com/example/planwright/planwright/census/SipHash" (26 : Nat) (7816392313619706465 : Int64)).before a0 Z = true := hw _ (List.mem_of_getElem? (i := 34) rfl)
theorem w_35 {Z : State} {a0 : Array Value} (hw : OW Z a0) : (Jvm.Cond.fieldLink "com/example/planwright/planwright/census/SipHash" (28 : Nat) "com/example/planwright/planwright/census/SipHash" "v2" "J").before a0 Z = true := hw _ (List.mem_of_getElem? (i := 35) rfl)
theorem w_36 {Z : State} {a0 : Array Value} (hw : OW Z a0) : (Jvm.Cond.lays "com/example/planwright/planwright/census/SipHash" "com/example/planwright/planwright/census/SipHash" "v2" "J").before a0 Z = true := hw _ (List.mem_of_getElem? (i := 36) rfl)
theorem w_37 {Z : State} {a0 : Array Value} (hw : OW Z a0) : (Jvm.Cond.constantLong "com/example/planwright/planwright/census/SipHash" (31 : Nat) (8387220255154660723 : Int64)).before a0 Z = true := hw _ (List.mem_of_getElem? (i := 37) rfl)
theorem w_38 {Z : State} {a0 : Array Value} (hw : OW Z a0) : (Jvm.Cond.fieldLink "com/example/planwright/planwright/census/SipHash" (33 : Nat) "com/example/planwright/planwright/census/SipHash" "v3" "J").before a0 Z = true := hw _ (List.mem_of_getElem? (i := 38) rfl)
theorem w_39 {Z : State} {a0 : Array Value} (hw : OW Z a0) : (Jvm.Cond.lays "com/example/planwright/planwright/census/SipHash" "com/example/planwright/planwright/census/SipHash" "v3" "J").before a0 Z = true := hw _ (List.mem_of_getElem? (i := 39) rfl)
theorem w_40 {Z : State} {a0 : Array Value} (hw : OW Z a0) : (Jvm.Cond.methodLink "com/example/planwright/planwright/census/SipHash" (36 : Nat) ({ cls := "com/example/planwright/planwright/census/SipHash", name := "littleEndian", desc := "([BII)J" } : Jvm.MethodName)).before a0 Z = true := hw _ (List.mem_of_getElem? (i := 40) rfl)
theorem w_41 {Z : State} {a0 : Array Value} (hw : OW Z a0) : (Jvm.Cond.static ({ cls := "com/example/planwright/planwright/census/SipHash", name := "littleEndian", desc := "([BII)J" } : Jvm.MethodName)).before a0 Z = true := hw _ (List.mem_of_getElem? (i := 41) rfl)
theorem w_42 {Z : State} {a0 : Array Value} (hw : OW Z a0) : (Jvm.Cond.code ({ cls := "com/example/planwright/planwright/census/SipHash", name := "littleEndian", desc := "([BII)J" } : Jvm.MethodName) prog_20_method_5_code (6 : Nat) (Option.some Jvm.ClassFile.FieldType.long)).before a0 Z = true := hw _ (List.mem_of_getElem? (i := 42) rfl)
theorem w_43 {Z : State} {a0 : Array Value} (hw : OW Z a0) : (Jvm.Cond.methodLink "com/example/planwright/planwright/census/SipHash" (40 : Nat) ({ cls := "com/example/planwright/planwright/census/SipHash", name := "absorb", desc := "(J)V" } : Jvm.MethodName)).before a0 Z = true := hw _ (List.mem_of_getElem? (i := 43) rfl)
theorem w_44 {Z : State} {a0 : Array Value} (hw : OW Z a0) : (Jvm.Cond.instanceMethod ({ cls := "com/example/planwright/planwright/census/SipHash", name := "absorb", desc := "(J)V" } : Jvm.MethodName)).before a0 Z = true := hw _ (List.mem_of_getElem? (i := 44) rfl)
theorem w_45 {Z : State} {a0 : Array Value} (hw : OW Z a0) : (Jvm.Cond.privateMethod ({ cls := "com/example/planwright/planwright/census/SipHash", name := "absorb", desc := "(J)V" } : Jvm.MethodName)).before a0 Z = true := hw _ (List.mem_of_getElem? (i := 45) rfl)
theorem w_46 {Z : State} {a0 : Array Value} (hw : OW Z a0) : (Jvm.Cond.code ({ cls := "com/example/planwright/planwright/census/SipHash", name := "absorb", desc := "(J)V" } : Jvm.MethodName) prog_20_method_3_code (3 : Nat) (Option.none : Option Jvm.ClassFile.FieldType)).before a0 Z = true := hw _ (List.mem_of_getElem? (i := 46) rfl)
theorem w_47 {Z : State} {a0 : Array Value} (hw : OW Z a0) : (Jvm.Cond.methodLink "com/example/planwright/planwright/census/SipHash" (46 : Nat) ({ cls := "com/example/planwright/planwright/census/SipHash", name := "rounds", desc := "(I)V" } : Jvm.MethodName)).before a0 Z = true := hw _ (List.mem_of_getElem? (i := 47) rfl)
theorem w_48 {Z : State} {a0 : Array Value} (hw : OW Z a0) : (Jvm.Cond.instanceMethod ({ cls := "com/example/planwright/planwright/census/SipHash", name := "rounds", desc := "(I)V" } : Jvm.MethodName)).before a0 Z = true := hw _ (List.mem_of_getElem? (i := 48) rfl)
theorem w_49 {Z : State} {a0 : Array Value} (hw : OW Z a0) : (Jvm.Cond.privateMethod ({ cls := "com/example/planwright/planwright/census/SipHash", name := "rounds", desc := "(I)V" } : Jvm.MethodName)).before a0 Z = true := hw _ (List.mem_of_getElem? (i := 49) rfl)
theorem w_50 {Z : State} {a0 : Array Value} (hw : OW Z a0) : (Jvm.Cond.code ({ cls := "com/example/planwright/planwright/census/SipHash", name := "rounds", desc := "(I)V" } : Jvm.MethodName) prog_20_method_4_code (3 : Nat) (Option.none : Option Jvm.ClassFile.FieldType)).before a0 Z = true := hw _ (List.mem_of_getElem? (i := 50) rfl)
theorem w_51 {Z : State} {a0 : Array Value} (hw : OW Z a0) : (Jvm.Cond.methodLink "com/example/planwright/planwright/census/SipHash" (50 : Nat) ({ cls := "java/lang/Long", name := "rotateLeft", desc := "(JI)J" } : Jvm.MethodName)).before a0 Z = true := hw _ (List.mem_of_getElem? (i := 51) rfl)
theorem w_52 {Z : State} {a0 : Array Value} (hw : OW Z a0) : (Jvm.Cond.static ({ cls := "java/lang/Long", name := "rotateLeft", desc := "(JI)J" } : Jvm.MethodName)).before a0 Z = true := hw _ (List.mem_of_getElem? (i := 52) rfl)
theorem w_53 {Z : State} {a0 : Array Value} (hw : OW Z a0) : (Jvm.Cond.initialized "java/lang/Long").before a0 Z = true := hw _ (List.mem_of_getElem? (i := 53) rfl)
theorem w_54 {Z : State} {a0 : Array Value} (hw : OW Z a0) : (Jvm.Cond.code ({ cls := "java/lang/Long", name := "rotateLeft", desc := "(JI)J" } : Jvm.MethodName) jdk_35_method_51_code (3 : Nat) (Option.some Jvm.ClassFile.FieldType.long)).before a0 Z = true := hw _ (List.mem_of_getElem? (i := 54) rfl)
theorem w_55 {Z : State} {a0 : Array Value} (hw : OW Z a0) : (Jvm.Cond.constantLong "com/example/planwright/planwright/census/SipHash" (44 : Nat) (255 : Int64)).before a0 Z = true := hw _ (List.mem_of_getElem? (i := 55) rfl)
theorem w_56 {Z : State} {a0 : Array Value} (hw : OW Z a0) : (Jvm.Cond.constantLong "com/example/planwright/planwright/census/SipHashHashPinLaw" (26 : Nat) (-6833708440360172059 : Int64)).before a0 Z = true := hw _ (List.mem_of_getElem? (i := 56) rfl)
theorem w_57 {Z : State} {a0 : Array Value} (hw : OW Z a0) : (Jvm.Cond.constantLong "com/example/planwright/planwright/census/SipHashHashPinLaw" (28 : Nat) (8246050544436514353 : Int64)).before a0 Z = true := hw _ (List.mem_of_getElem? (i := 57) rfl)
abbrev OSt : Type := Int64 × Int64 × Int64 × Int64
def own_rot (x : Int64) (k : Int32) : Int64 := (x <<< (k &&& 0x3f).toInt64) ||| ((x.toUInt64 >>> ((-k) &&& 0x3f).toInt64.toUInt64).toInt64)
def own_round (t : OSt) : OSt :=
  let a0 := t.1 + t.2.1
  let a1 := own_rot t.2.1 13 ^^^ a0
  let b0 := own_rot a0 32
  let a2 := t.2.2.1 + t.2.2.2
  let a3 := own_rot t.2.2.2 16 ^^^ a2
  let c0 := b0 + a3
  let b3 := own_rot a3 21 ^^^ c0
  let b2 := a2 + a1
  let b1 := own_rot a1 17 ^^^ b2
  (c0, b1, own_rot b2 32, b3)
def own_rounds : Nat → OSt → OSt
  | 0, t => t
  | d + 1, t => own_rounds d (own_round t)
def own_absorb (t : OSt) (w : Int64) : OSt :=
  let u := own_rounds 2 (t.1, t.2.1, t.2.2.1, t.2.2.2 ^^^ w)
  (u.1 ^^^ w, u.2.1, u.2.2.1, u.2.2.2)
def own_lel (g : Nat → Int32) (lo : Nat) : Nat → Int64 → Int64
  | 0, acc => acc
  | d + 1, acc => own_lel g lo d ((acc <<< ((8 : Int32) &&& 0x3f).toInt64) ||| (g (lo + d) &&& 255).toInt64)
def own_le (g : Nat → Int32) (lo cnt : Nat) : Int64 := own_lel g lo cnt 0
def own_blocks (g : Nat → Int32) : Nat → Nat → OSt → OSt
  | 0, _, t => t
  | d + 1, i, t => own_blocks g d (i + 8) (own_absorb t (own_le g i 8))
def own_init (k0 k1 : Int64) : OSt := (k0 ^^^ 8317987319222330741, k1 ^^^ 7237128888997146477, k0 ^^^ 7816392313619706465, k1 ^^^ 8387220255154660723)
def own_last (t : OSt) (w : Int64) : Int64 :=
  let u := own_absorb t w
  let r := own_rounds 4 (u.1, u.2.1, u.2.2.1 ^^^ 255, u.2.2.2)
  r.1 ^^^ r.2.1 ^^^ r.2.2.1 ^^^ r.2.2.2
def own_hash (k0 k1 : Int64) (g : Nat → Int32) (fr : Nat) (len : Int32) : Int64 :=
  own_last (own_blocks g (len.toInt.toNat / 8) fr (own_init k0 k1)) (own_le g (fr + len.toInt.toNat / 8 * 8) (len.toInt.toNat % 8) ||| (len.toInt64 <<< ((56 : Int32) &&& 0x3f).toInt64))
theorem own_lel_congr (g g' : Nat → Int32) (lo lo' : Nat) : ∀ d acc, (∀ t, t < d → g (lo + t) = g' (lo' + t)) → own_lel g lo d acc = own_lel g' lo' d acc := by
  intro d
  induction d with
  | zero => intro acc h; rfl
  | succ d ih =>
    intro acc h
    rw [own_lel, own_lel, h d (Nat.lt_succ_self d)]
    exact ih _ fun t ht => h t (Nat.lt_succ_of_lt ht)
theorem own_blocks_congr (g g' : Nat → Int32) : ∀ d i i' t, (∀ u, u < 8 * d → g (i + u) = g' (i' + u)) → own_blocks g d i t = own_blocks g' d i' t := by
  intro d
  induction d with
  | zero => intro i i' t h; rfl
  | succ d ih =>
    intro i i' t h
    rw [own_blocks, own_blocks, own_le, own_le, own_lel_congr g g' i i' 8 0 fun u hu => h u (by omega)]
    exact ih _ _ _ fun u hu => by rw [Nat.add_assoc, Nat.add_assoc]; exact h (8 + u) (by omega)
theorem own_hash_congr (k0 k1 : Int64) (g g' : Nat → Int32) (fr fr' : Nat) (len : Int32) (h : ∀ u, u < len.toInt.toNat → g (fr + u) = g' (fr' + u)) : own_hash k0 k1 g fr len = own_hash k0 k1 g' fr' len := by
  rw [own_hash, own_hash, own_blocks_congr g g' _ fr fr' _ fun u hu => h u (by omega), own_le, own_le, own_lel_congr g g' (fr + len.toInt.toNat / 8 * 8) (fr' + len.toInt.toNat / 8 * 8) _ 0 fun u hu => by rw [Nat.add_assoc, Nat.add_assoc]; exact h _ (by omega)]
theorem own_dec (x : Int32) (h : -2147483648 < x.toInt) : (x + (-1)).toInt = x.toInt - 1 := by
  have q1 := c_iadd x (-1)
  have q2 := rng32 (x + (-1))
  have q3 := rng32 x
  have q4 : (-1 : Int32).toInt = -1 := by decide
  rw [q4] at q1
  omega
theorem own_vec15 : own_hash 506097522914230528 1084818905618843912 (fun j => Int32.ofNat j) 0 15 = -6833708440360172059 := by decide +kernel
theorem own_vec0 (g : Nat → Int32) (e : Nat) : own_hash 506097522914230528 1084818905618843912 g e 0 = 8246050544436514353 := by
  rw [own_hash_congr _ _ g (fun _ => 0) e 0 0 (fun u hu => absurd hu (by show ¬ u < 0; omega))]
  decide +kernel
def own_data (x y z : Int64) (i : Int32) : Int32 := ((((if i.toInt < 8 then x else if i.toInt < 16 then y else z).toUInt64 >>> (((i &&& 7) * 8) &&& 0x3f).toInt64.toUInt64).toInt64.toInt32).toInt8.toInt32)
theorem own_data_b (x y z : Int64) (i : Int32) : nar .byte (own_data x y z i) = own_data x y z i := o_nb _
def own_bv (x y z : Int64) (j o1 o2 ln : Int32) : Int32 := if o2.toInt ≤ j.toInt ∧ j.toInt < o2.toInt + ln.toInt then own_data x y z ((j - o2) + o1) else (((own_data x y z j) ^^^ (-1)).toInt8.toInt32)
theorem own_upd (F : Nat → Value) (dv : Value) (k q : Nat) : (if q = k then F k else if q < k then F q else dv) = if q < k + 1 then F q else dv := by
  by_cases h : q = k
  · subst h; rw [if_pos rfl, if_pos (Nat.lt_succ_self q)]
  · by_cases h2 : q < k
    · rw [if_neg h, if_pos h2, if_pos (by omega)]
    · rw [if_neg h, if_neg h2, if_neg (by omega)]
def own_S (Z : State) (h : Heap) (a : Addr) (k0 k1 : Int64) (t : OSt) : Prop := Exa Z h a "com/example/planwright/planwright/census/SipHash" ∧ Fld Z h a "com/example/planwright/planwright/census/SipHash" "key0" "J" (.long k0) ∧ Fld Z h a "com/example/planwright/planwright/census/SipHash" "key1" "J" (.long k1) ∧ Fld Z h a "com/example/planwright/planwright/census/SipHash" "v0" "J" (.long t.1) ∧ Fld Z h a "com/example/planwright/planwright/census/SipHash" "v1" "J" (.long t.2.1) ∧ Fld Z h a "com/example/planwright/planwright/census/SipHash" "v2" "J" (.long t.2.2.1) ∧ Fld Z h a "com/example/planwright/planwright/census/SipHash" "v3" "J" (.long t.2.2.2)
theorem d9_0 : decode jdk_35_method_51_code 0 = .ok (.lload_n 0, 1) := by decide +kernel
theorem d9_1 : decode jdk_35_method_51_code 1 = .ok (.iload_n 2, 1) := by decide +kernel
theorem d9_2 : decode jdk_35_method_51_code 2 = .ok (.lshl, 1) := by decide +kernel
theorem d9_3 : decode jdk_35_method_51_code 3 = .ok (.lload_n 0, 1) := by decide +kernel
theorem d9_4 : decode jdk_35_method_51_code 4 = .ok (.iload_n 2, 1) := by decide +kernel
theorem d9_5 : decode jdk_35_method_51_code 5 = .ok (.ineg, 1) := by decide +kernel
theorem d9_6 : decode jdk_35_method_51_code 6 = .ok (.lushr, 1) := by decide +kernel
theorem d9_7 : decode jdk_35_method_51_code 7 = .ok (.lor, 1) := by decide +kernel
theorem d9_8 : decode jdk_35_method_51_code 8 = .ok (.lreturn, 1) := by decide +kernel
theorem pn_9 : plainFor (⟨"java/lang/Long", "rotateLeft", "(JI)J"⟩ : MethodName) = true := plainFor_of_name (by first | (simp [plainName, overriddenIn]; done) | decide +kernel)
set_option maxHeartbeats 4000000 in
theorem c_rot (l : Launch) (Z : State) (a0 : Array Value) (hw : OW Z a0) (n0 : Nat) (q : Int64) (k : Int32) (h0 : Heap) (Z0 : n0 ≤ h0.size) :
    OCon l Z n0 (⟨"java/lang/Long", "rotateLeft", "(JI)J"⟩ : MethodName) jdk_35_method_51_code 3 (some .long) ({ frames := 0, cells := 0, slots := 0, locals := 0 } : Room) #[(.long q), (.int k)] h0 (fun v h => v = some (.long (own_rot q k)) ∧ h = h0) := by
  refine OCon.of (Ls := #[.val (.long q), .second, .val (.int k)]) pn_9 rfl rfl (fun m => by first | (simp [entryFrame, mkF, argsToLocals, Value.category]; done) | rfl) ?_
  intro p e s m below meth c T0 X0 K e0
  have N0 := Fr.nil n0
  refine o_lloadN X0 K d9_0 1 rfl rfl ?_
  refine o_iloadN X0 K d9_1 2 rfl rfl ?_
  refine o_lshl X0 K d9_2 3 rfl ?_
  refine o_lloadN X0 K d9_3 4 rfl rfl ?_
  refine o_iloadN X0 K d9_4 5 rfl rfl ?_
  refine o_ineg X0 K d9_5 6 rfl ?_
  refine o_lushr X0 K d9_6 7 rfl ?_
  refine o_lor X0 K d9_7 8 rfl ?_
  refine o_lreturn X0 K d9_8 (by decide) (by decide) N0 ?_
  exact ⟨rfl, e0⟩
theorem d2_0 : decode method_3_code 0 = .ok (.iload 6, 2) := by decide +kernel
theorem d2_2 : decode method_3_code 2 = .ok (.bipush 8, 2) := by decide +kernel
theorem d2_4 : decode method_3_code 4 = .ok (.if_icmp .ge 7, 3) := by decide +kernel
theorem d2_11 : decode method_3_code 11 = .ok (.iload 6, 2) := by decide +kernel
theorem d2_13 : decode method_3_code 13 = .ok (.bipush 16, 2) := by decide +kernel
theorem d2_15 : decode method_3_code 15 = .ok (.if_icmp .ge 7, 3) := by decide +kernel
theorem d2_22 : decode method_3_code 22 = .ok (.lload 4, 2) := by decide +kernel
theorem d2_24 : decode method_3_code 24 = .ok (.lstore 7, 2) := by decide +kernel
theorem d2_26 : decode method_3_code 26 = .ok (.lload 7, 2) := by decide +kernel
theorem d2_28 : decode method_3_code 28 = .ok (.iload 6, 2) := by decide +kernel
theorem d2_30 : decode method_3_code 30 = .ok (.bipush 7, 2) := by decide +kernel
theorem d2_32 : decode method_3_code 32 = .ok (.iand, 1) := by decide +kernel
theorem d2_33 : decode method_3_code 33 = .ok (.bipush 8, 2) := by decide +kernel
theorem d2_35 : decode method_3_code 35 = .ok (.imul, 1) := by decide +kernel
theorem d2_36 : decode method_3_code 36 = .ok (.lushr, 1) := by decide +kernel
theorem d2_37 : decode method_3_code 37 = .ok (.l2i, 1) := by decide +kernel
theorem d2_38 : decode method_3_code 38 = .ok (.i2b, 1) := by decide +kernel
theorem d2_39 : decode method_3_code 39 = .ok (.ireturn, 1) := by decide +kernel
theorem d2_18 : decode method_3_code 18 = .ok (.lload_n 2, 1) := by decide +kernel
theorem d2_19 : decode method_3_code 19 = .ok (.goto 5, 3) := by decide +kernel
theorem d2_7 : decode method_3_code 7 = .ok (.lload_n 0, 1) := by decide +kernel
theorem d2_8 : decode method_3_code 8 = .ok (.goto 16, 3) := by decide +kernel
theorem pn_2 : plainFor (⟨"com/example/planwright/planwright/census/SipHashHashPinLaw", "data", "(JJJI)B"⟩ : MethodName) = true := plainFor_of_name (by first | (simp [plainName, overriddenIn]; done) | decide +kernel)
set_option maxHeartbeats 4000000 in
theorem c_data (l : Launch) (Z : State) (a0 : Array Value) (hw : OW Z a0) (n0 : Nat) (dx dy dz : Int64) (i : Int32) (h0 : Heap) (Z0 : n0 ≤ h0.size) :
    OCon l Z n0 (⟨"com/example/planwright/planwright/census/SipHashHashPinLaw", "data", "(JJJI)B"⟩ : MethodName) method_3_code 9 (some .byte) ({ frames := 0, cells := 0, slots := 0, locals := 0 } : Room) #[(.long dx), (.long dy), (.long dz), (.int i)] h0 (fun v h => v = some (.int (own_data dx dy dz i)) ∧ h = h0) := by
  refine OCon.of (Ls := #[.val (.long dx), .second, .val (.long dy), .second, .val (.long dz), .second, .val (.int i), .unset, .unset]) pn_2 rfl rfl (fun m => by first | (simp [entryFrame, mkF, argsToLocals, Value.category]; done) | rfl) ?_
  intro p e s m below meth c T0 X0 K e0
  have N0 := Fr.nil n0
  have l0 : (0 : Int32).toInt = 0 := rfl
  have l1 : (1 : Int32).toInt = 1 := rfl
  have l7 : (7 : Int32).toInt = 7 := rfl
  have l8 : (8 : Int32).toInt = 8 := rfl
  have l16 : (16 : Int32).toInt = 16 := rfl
  refine o_iload X0 K d2_0 2 rfl rfl ?_
  refine o_bipush X0 K (8 : Int32) d2_2 4 rfl rfl ?_
  refine o_icmp_ge X0 K d2_4 11 (by decide) (by decide) 7 rfl (fun hc4 => ?_) (fun hc4 => ?_)
  · refine o_iload X0 K d2_11 13 rfl rfl ?_
    refine o_bipush X0 K (16 : Int32) d2_13 15 rfl rfl ?_
    refine o_icmp_ge X0 K d2_15 22 (by decide) (by decide) 18 rfl (fun hc15 => ?_) (fun hc15 => ?_)
    · refine o_lload X0 K d2_22 24 rfl rfl ?_
      refine o_lstore X0 K d2_24 26 rfl #[.val (.long dx), .second, .val (.long dy), .second, .val (.long dz), .second, .val (.int i), .val (.long dz), .second] rfl rfl ?_
      refine o_lload X0 K d2_26 28 rfl rfl ?_
      refine o_iload X0 K d2_28 30 rfl rfl ?_
      refine o_bipush X0 K (7 : Int32) d2_30 32 rfl rfl ?_
      refine o_iand X0 K d2_32 33 rfl ?_
      refine o_bipush X0 K (8 : Int32) d2_33 35 rfl rfl ?_
      refine o_imul X0 K d2_35 36 rfl ?_
      refine o_lushr X0 K d2_36 37 rfl ?_
      refine o_l2i X0 K d2_37 38 rfl ?_
      refine o_i2b X0 K d2_38 39 rfl ?_
      refine o_ireturnN X0 K (by decide) d2_39 (by decide) (by decide) N0 ?_
      refine ⟨?_, e0⟩
      rw [own_data, if_neg (by omega), if_neg (by omega)]
      exact congrArg (fun z_ => some (Value.int z_)) (o_nb _)
    · refine o_lloadN X0 K d2_18 19 rfl rfl ?_
      refine o_goto X0 K d2_19 24 (by decide) (by decide) ?_
      refine o_lstore X0 K d2_24 26 rfl #[.val (.long dx), .second, .val (.long dy), .second, .val (.long dz), .second, .val (.int i), .val (.long dy), .second] rfl rfl ?_
      refine o_lload X0 K d2_26 28 rfl rfl ?_
      refine o_iload X0 K d2_28 30 rfl rfl ?_
      refine o_bipush X0 K (7 : Int32) d2_30 32 rfl rfl ?_
      refine o_iand X0 K d2_32 33 rfl ?_
      refine o_bipush X0 K (8 : Int32) d2_33 35 rfl rfl ?_
      refine o_imul X0 K d2_35 36 rfl ?_
      refine o_lushr X0 K d2_36 37 rfl ?_
      refine o_l2i X0 K d2_37 38 rfl ?_
      refine o_i2b X0 K d2_38 39 rfl ?_
      refine o_ireturnN X0 K (by decide) d2_39 (by decide) (by decide) N0 ?_
      refine ⟨?_, e0⟩
      rw [own_data, if_neg (by omega), if_pos (by omega)]
      exact congrArg (fun z_ => some (Value.int z_)) (o_nb _)
  · refine o_lloadN X0 K d2_7 8 rfl rfl ?_
    refine o_goto X0 K d2_8 24 (by decide) (by decide) ?_
    refine o_lstore X0 K d2_24 26 rfl #[.val (.long dx), .second, .val (.long dy), .second, .val (.long dz), .second, .val (.int i), .val (.long dx), .second] rfl rfl ?_
    refine o_lload X0 K d2_26 28 rfl rfl ?_
    refine o_iload X0 K d2_28 30 rfl rfl ?_
    refine o_bipush X0 K (7 : Int32) d2_30 32 rfl rfl ?_
    refine o_iand X0 K d2_32 33 rfl ?_
    refine o_bipush X0 K (8 : Int32) d2_33 35 rfl rfl ?_
    refine o_imul X0 K d2_35 36 rfl ?_
    refine o_lushr X0 K d2_36 37 rfl ?_
    refine o_l2i X0 K d2_37 38 rfl ?_
    refine o_i2b X0 K d2_38 39 rfl ?_
    refine o_ireturnN X0 K (by decide) d2_39 (by decide) (by decide) N0 ?_
    refine ⟨?_, e0⟩
    rw [own_data, if_pos (by omega)]
    exact congrArg (fun z_ => some (Value.int z_)) (o_nb _)
theorem d1_0 : decode method_4_code 0 = .ok (.aload_n 0, 1) := by decide +kernel
theorem d1_1 : decode method_4_code 1 = .ok (.iload_n 2, 1) := by decide +kernel
theorem d1_2 : decode method_4_code 2 = .ok (.lload_n 3, 1) := by decide +kernel
theorem d1_3 : decode method_4_code 3 = .ok (.lload 5, 2) := by decide +kernel
theorem d1_5 : decode method_4_code 5 = .ok (.lload 7, 2) := by decide +kernel
theorem d1_7 : decode method_4_code 7 = .ok (.iload_n 2, 1) := by decide +kernel
theorem d1_8 : decode method_4_code 8 = .ok (.invokestatic 30, 3) := by decide +kernel
theorem pd__JJJI_B : parseMethodDescriptor "(JJJI)B" = some ⟨[.long, .long, .long, .int], some .byte⟩ := by decide +kernel
theorem d1_11 : decode method_4_code 11 = .ok (.bastore, 1) := by decide +kernel
theorem d1_12 : decode method_4_code 12 = .ok (.iload_n 2, 1) := by decide +kernel
theorem d1_13 : decode method_4_code 13 = .ok (.iload 10, 2) := by decide +kernel
theorem d1_15 : decode method_4_code 15 = .ok (.if_icmp .lt 33, 3) := by decide +kernel
theorem d1_48 : decode method_4_code 48 = .ok (.aload_n 1, 1) := by decide +kernel
theorem d1_49 : decode method_4_code 49 = .ok (.iload_n 2, 1) := by decide +kernel
theorem d1_50 : decode method_4_code 50 = .ok (.lload_n 3, 1) := by decide +kernel
theorem d1_51 : decode method_4_code 51 = .ok (.lload 5, 2) := by decide +kernel
theorem d1_53 : decode method_4_code 53 = .ok (.lload 7, 2) := by decide +kernel
theorem d1_55 : decode method_4_code 55 = .ok (.iload_n 2, 1) := by decide +kernel
theorem d1_56 : decode method_4_code 56 = .ok (.invokestatic 30, 3) := by decide +kernel
theorem d1_59 : decode method_4_code 59 = .ok (.iconst (-1), 1) := by decide +kernel
theorem d1_60 : decode method_4_code 60 = .ok (.ixor, 1) := by decide +kernel
theorem d1_61 : decode method_4_code 61 = .ok (.i2b, 1) := by decide +kernel
theorem d1_62 : decode method_4_code 62 = .ok (.bastore, 1) := by decide +kernel
theorem d1_63 : decode method_4_code 63 = .ok (.return_, 1) := by decide +kernel
theorem d1_18 : decode method_4_code 18 = .ok (.iload_n 2, 1) := by decide +kernel
theorem d1_19 : decode method_4_code 19 = .ok (.iload 10, 2) := by decide +kernel
theorem d1_21 : decode method_4_code 21 = .ok (.iload 11, 2) := by decide +kernel
theorem d1_23 : decode method_4_code 23 = .ok (.iadd, 1) := by decide +kernel
theorem d1_24 : decode method_4_code 24 = .ok (.if_icmp .ge 24, 3) := by decide +kernel
theorem d1_27 : decode method_4_code 27 = .ok (.aload_n 1, 1) := by decide +kernel
theorem d1_28 : decode method_4_code 28 = .ok (.iload_n 2, 1) := by decide +kernel
theorem d1_29 : decode method_4_code 29 = .ok (.lload_n 3, 1) := by decide +kernel
theorem d1_30 : decode method_4_code 30 = .ok (.lload 5, 2) := by decide +kernel
theorem d1_32 : decode method_4_code 32 = .ok (.lload 7, 2) := by decide +kernel
theorem d1_34 : decode method_4_code 34 = .ok (.iload_n 2, 1) := by decide +kernel
theorem d1_35 : decode method_4_code 35 = .ok (.iload 10, 2) := by decide +kernel
theorem d1_37 : decode method_4_code 37 = .ok (.isub, 1) := by decide +kernel
theorem d1_38 : decode method_4_code 38 = .ok (.iload 9, 2) := by decide +kernel
theorem d1_40 : decode method_4_code 40 = .ok (.iadd, 1) := by decide +kernel
theorem d1_41 : decode method_4_code 41 = .ok (.invokestatic 30, 3) := by decide +kernel
theorem d1_44 : decode method_4_code 44 = .ok (.bastore, 1) := by decide +kernel
theorem d1_45 : decode method_4_code 45 = .ok (.goto 18, 3) := by decide +kernel
theorem pn_1 : plainFor (⟨"com/example/planwright/planwright/census/SipHashHashPinLaw", "put", "([B[BIJJJIII)V"⟩ : MethodName) = true := plainFor_of_name (by first | (simp [plainName, overriddenIn]; done) | decide +kernel)
set_option maxHeartbeats 4000000 in
theorem c_put (l : Launch) (Z : State) (a0 : Array Value) (hw : OW Z a0) (n0 : Nat) (ar br : Addr) (jv : Int32) (jn : Nat) (dx dy dz : Int64) (o1 o2 ln : Int32) (fa fb : Nat → Value) (h0 : Heap) (Z0 : n0 ≤ h0.size) (A_ar : OAr Z h0 ar .byte 24 fa) (g_ar : n0 ≤ ar) (A_br : OAr Z h0 br .byte 24 fb) (g_br : n0 ≤ br) (ne_ar_br : ar ≠ br) (hj : jv.toInt = jn ∧ jn < 24 ∧ 0 ≤ o2.toInt ∧ o2.toInt ≤ 7 ∧ 0 ≤ ln.toInt ∧ ln.toInt ≤ 16) :
    OCon l Z n0 (⟨"com/example/planwright/planwright/census/SipHashHashPinLaw", "put", "([B[BIJJJIII)V"⟩ : MethodName) method_4_code 12 none ({ frames := 1, cells := 0, slots := 0, locals := 23 } : Room) #[(.ref ar), (.ref br), (.int jv), (.long dx), (.long dy), (.long dz), (.int o1), (.int o2), (.int ln)] h0 (fun v h => v = none ∧ Keep h0 h [ar, br] ∧ OAr Z h ar .byte 24 (fun q_ => if q_ = jn then (.int (own_data dx dy dz jv)) else fa q_) ∧ OAr Z h br .byte 24 (fun q_ => if q_ = jn then (.int (own_bv dx dy dz jv o1 o2 ln)) else fb q_)) := by
  refine OCon.of (Ls := #[.val (.ref ar), .val (.ref br), .val (.int jv), .val (.long dx), .second, .val (.long dy), .second, .val (.long dz), .second, .val (.int o1), .val (.int o2), .val (.int ln)]) pn_1 rfl rfl (fun m => by first | (simp [entryFrame, mkF, argsToLocals, Value.category]; done) | rfl) ?_
  intro p e s m below meth c T0 X0 K e0
  have N0 := Fr.nil n0
  have KK0 := Keep.refl h0 [ar, br]
  refine o_aloadN X0 K d1_0 1 rfl rfl rfl ?_
  refine o_iloadN X0 K d1_1 2 rfl rfl ?_
  refine o_lloadN X0 K d1_2 3 rfl rfl ?_
  refine o_lload X0 K d1_3 5 rfl rfl ?_
  refine o_lload X0 K d1_5 7 rfl rfl ?_
  refine o_iloadN X0 K d1_7 8 rfl rfl ?_
  refine o_invokestatic X0 K d1_8 11 rfl (w_5 hw) (w_6 hw) (w_3 hw) (w_7 hw) (by decide) [(.long dx), (.long dy), (.long dz), (.int jv)] [(.int jv), (.ref ar)] rfl  (c_data l Z a0 hw n0 dx dy dz jv h0 Z0 ) e0 rfl (lenOf pd__JJJI_B rfl) (by decide) 2 (Nat.le_of_eq rfl) (by decide) (by decide) (by decide) N0 ?_
  rintro _ T_1 h_1 locs_1 X_1 q_1 ⟨rfl, r_1⟩ N_1
  have e_1 := q_1.trans r_1
  show OGo p e below s n0 _ _ _ (T_1.setTop (mkF m 11 #[.val (.ref ar), .val (.ref br), .val (.int jv), .val (.long dx), .second, .val (.long dy), .second, .val (.long dz), .second, .val (.int o1), .val (.int o2), .val (.int ln)] [(.int (own_data dx dy dz jv)), (.int jv), (.ref ar)]))
  refine o_bastore X_1 K (i := jn) (x' := (own_data dx dy dz jv)) d1_11 12 rfl e_1 A_ar (hj.1) (hj.2.1) (own_data_b _ _ _ _) N_1 g_ar ?_
  intro T_2 h_2 locs_2 X_2 e_2 W_2 A_2 N_2
  have Z_2 : n0 ≤ h_2.size := by rw [Wr.size W_2]; exact Z0
  have K_2 := KK0.wr W_2 (Or.inl (by simp))
  have f_3 := A_br.other W_2 (Ne.symm ne_ar_br)
  refine o_iloadN X_2 K d1_12 13 rfl rfl ?_
  refine o_iload X_2 K d1_13 15 rfl rfl ?_
  refine o_icmp_lt X_2 K d1_15 48 (by decide) (by decide) 18 rfl (fun hc15 => ?_) (fun hc15 => ?_)
  · refine o_aloadN X_2 K d1_48 49 rfl rfl rfl ?_
    refine o_iloadN X_2 K d1_49 50 rfl rfl ?_
    refine o_lloadN X_2 K d1_50 51 rfl rfl ?_
    refine o_lload X_2 K d1_51 53 rfl rfl ?_
    refine o_lload X_2 K d1_53 55 rfl rfl ?_
    refine o_iloadN X_2 K d1_55 56 rfl rfl ?_
    refine o_invokestatic X_2 K d1_56 59 rfl (w_5 hw) (w_6 hw) (w_3 hw) (w_7 hw) (by decide) [(.long dx), (.long dy), (.long dz), (.int jv)] [(.int jv), (.ref br)] rfl  (c_data l Z a0 hw n0 dx dy dz jv h_2 Z_2 ) e_2 rfl (lenOf pd__JJJI_B rfl) (by decide) 2 (Nat.le_of_eq rfl) (by decide) (by decide) (by decide) N_2 ?_
    rintro _ T_4 h_4 locs_4 X_4 q_4 ⟨rfl, r_4⟩ N_4
    have e_4 := q_4.trans r_4
    show OGo p e below s n0 _ _ _ (T_4.setTop (mkF m 59 #[.val (.ref ar), .val (.ref br), .val (.int jv), .val (.long dx), .second, .val (.long dy), .second, .val (.long dz), .second, .val (.int o1), .val (.int o2), .val (.int ln)] [(.int (own_data dx dy dz jv)), (.int jv), (.ref br)]))
    refine o_iconst X_4 K (-1 : Int32) d1_59 60 rfl rfl ?_
    refine o_ixor X_4 K d1_60 61 rfl ?_
    refine o_i2b X_4 K d1_61 62 rfl ?_
    refine o_bastore X_4 K (i := jn) (x' := (((own_data dx dy dz jv) ^^^ (-1 : Int32)).toInt8.toInt32)) d1_62 63 rfl e_4 f_3 (hj.1) (hj.2.1) (o_nb _) N_4 g_br ?_
    intro T_5 h_5 locs_5 X_5 e_5 W_5 A_5 N_5
    have Z_5 : n0 ≤ h_5.size := by rw [Wr.size W_5]; exact Z_2
    have K_5 := K_2.wr W_5 (Or.inl (by simp))
    have f_6 := A_2.other W_5 ne_ar_br
    refine o_return X_5 K d1_63 (by decide) (by decide) N_5 ?_
    rw [e_5]
    refine ⟨rfl, K_5, f_6, ?_⟩
    rw [own_bv, if_neg (by omega)]
    exact A_5
  · refine o_iloadN X_2 K d1_18 19 rfl rfl ?_
    refine o_iload X_2 K d1_19 21 rfl rfl ?_
    refine o_iload X_2 K d1_21 23 rfl rfl ?_
    refine o_iadd X_2 K d1_23 24 rfl ?_
    have hs : (o2 + ln).toInt = o2.toInt + ln.toInt := by have q1 := c_iadd o2 ln; have q2 := rng32 (o2 + ln); omega
    refine o_icmp_ge X_2 K d1_24 48 (by decide) (by decide) 27 rfl (fun hc24 => ?_) (fun hc24 => ?_)
    · refine o_aloadN X_2 K d1_48 49 rfl rfl rfl ?_
      refine o_iloadN X_2 K d1_49 50 rfl rfl ?_
      refine o_lloadN X_2 K d1_50 51 rfl rfl ?_
      refine o_lload X_2 K d1_51 53 rfl rfl ?_
      refine o_lload X_2 K d1_53 55 rfl rfl ?_
      refine o_iloadN X_2 K d1_55 56 rfl rfl ?_
      refine o_invokestatic X_2 K d1_56 59 rfl (w_5 hw) (w_6 hw) (w_3 hw) (w_7 hw) (by decide) [(.long dx), (.long dy), (.long dz), (.int jv)] [(.int jv), (.ref br)] rfl  (c_data l Z a0 hw n0 dx dy dz jv h_2 Z_2 ) e_2 rfl (lenOf pd__JJJI_B rfl) (by decide) 2 (Nat.le_of_eq rfl) (by decide) (by decide) (by decide) N_2 ?_
      rintro _ T_7 h_7 locs_7 X_7 q_7 ⟨rfl, r_7⟩ N_7
      have e_7 := q_7.trans r_7
      show OGo p e below s n0 _ _ _ (T_7.setTop (mkF m 59 #[.val (.ref ar), .val (.ref br), .val (.int jv), .val (.long dx), .second, .val (.long dy), .second, .val (.long dz), .second, .val (.int o1), .val (.int o2), .val (.int ln)] [(.int (own_data dx dy dz jv)), (.int jv), (.ref br)]))
      refine o_iconst X_7 K (-1 : Int32) d1_59 60 rfl rfl ?_
      refine o_ixor X_7 K d1_60 61 rfl ?_
      refine o_i2b X_7 K d1_61 62 rfl ?_
      refine o_bastore X_7 K (i := jn) (x' := (((own_data dx dy dz jv) ^^^ (-1 : Int32)).toInt8.toInt32)) d1_62 63 rfl e_7 f_3 (hj.1) (hj.2.1) (o_nb _) N_7 g_br ?_
      intro T_8 h_8 locs_8 X_8 e_8 W_8 A_8 N_8
      have Z_8 : n0 ≤ h_8.size := by rw [Wr.size W_8]; exact Z_2
      have K_8 := K_2.wr W_8 (Or.inl (by simp))
      have f_9 := A_2.other W_8 ne_ar_br
      refine o_return X_8 K d1_63 (by decide) (by decide) N_8 ?_
      rw [e_8]
      refine ⟨rfl, K_8, f_9, ?_⟩
      rw [own_bv, if_neg (by omega)]
      exact A_8
    · refine o_aloadN X_2 K d1_27 28 rfl rfl rfl ?_
      refine o_iloadN X_2 K d1_28 29 rfl rfl ?_
      refine o_lloadN X_2 K d1_29 30 rfl rfl ?_
      refine o_lload X_2 K d1_30 32 rfl rfl ?_
      refine o_lload X_2 K d1_32 34 rfl rfl ?_
      refine o_iloadN X_2 K d1_34 35 rfl rfl ?_
      refine o_iload X_2 K d1_35 37 rfl rfl ?_
      refine o_isub X_2 K d1_37 38 rfl ?_
      refine o_iload X_2 K d1_38 40 rfl rfl ?_
      refine o_iadd X_2 K d1_40 41 rfl ?_
      refine o_invokestatic X_2 K d1_41 44 rfl (w_5 hw) (w_6 hw) (w_3 hw) (w_7 hw) (by decide) [(.long dx), (.long dy), (.long dz), (.int ((jv - o2) + o1))] [(.int jv), (.ref br)] rfl  (c_data l Z a0 hw n0 dx dy dz ((jv - o2) + o1) h_2 Z_2 ) e_2 rfl (lenOf pd__JJJI_B rfl) (by decide) 2 (Nat.le_of_eq rfl) (by decide) (by decide) (by decide) N_2 ?_
      rintro _ T_10 h_10 locs_10 X_10 q_10 ⟨rfl, r_10⟩ N_10
      have e_10 := q_10.trans r_10
      show OGo p e below s n0 _ _ _ (T_10.setTop (mkF m 44 #[.val (.ref ar), .val (.ref br), .val (.int jv), .val (.long dx), .second, .val (.long dy), .second, .val (.long dz), .second, .val (.int o1), .val (.int o2), .val (.int ln)] [(.int (own_data dx dy dz ((jv - o2) + o1))), (.int jv), (.ref br)]))
      refine o_bastore X_10 K (i := jn) (x' := (own_data dx dy dz ((jv - o2) + o1))) d1_44 45 rfl e_10 f_3 (hj.1) (hj.2.1) (own_data_b _ _ _ _) N_10 g_br ?_
      intro T_11 h_11 locs_11 X_11 e_11 W_11 A_11 N_11
      have Z_11 : n0 ≤ h_11.size := by rw [Wr.size W_11]; exact Z_2
      have K_11 := K_2.wr W_11 (Or.inl (by simp))
      have f_12 := A_2.other W_11 ne_ar_br
      refine o_goto X_11 K d1_45 63 (by decide) (by decide) ?_
      refine o_return X_11 K d1_63 (by decide) (by decide) N_11 ?_
      rw [e_11]
      refine ⟨rfl, K_11, f_12, ?_⟩
      rw [own_bv, if_pos (by omega)]
      exact A_11
theorem d3_0 : decode prog_20_method_1_code 0 = .ok (.aload_n 0, 1) := by decide +kernel
theorem d3_1 : decode prog_20_method_1_code 1 = .ok (.invokespecial 1, 3) := by decide +kernel
theorem d3_4 : decode prog_20_method_1_code 4 = .ok (.aload_n 0, 1) := by decide +kernel
theorem d3_5 : decode prog_20_method_1_code 5 = .ok (.lload_n 1, 1) := by decide +kernel
theorem d3_6 : decode prog_20_method_1_code 6 = .ok (.putfield 7, 3) := by decide +kernel
theorem d3_9 : decode prog_20_method_1_code 9 = .ok (.aload_n 0, 1) := by decide +kernel
theorem d3_10 : decode prog_20_method_1_code 10 = .ok (.lload_n 3, 1) := by decide +kernel
theorem d3_11 : decode prog_20_method_1_code 11 = .ok (.putfield 13, 3) := by decide +kernel
theorem d3_14 : decode prog_20_method_1_code 14 = .ok (.return_, 1) := by decide +kernel
theorem pn_3 : plainFor (⟨"com/example/planwright/planwright/census/SipHash", "<init>", "(JJ)V"⟩ : MethodName) = true := plainFor_of_name (by first | (simp [plainName, overriddenIn]; done) | decide +kernel)
set_option maxHeartbeats 4000000 in
theorem c_init (l : Launch) (Z : State) (a0 : Array Value) (hw : OW Z a0) (n0 : Nat) (a : Addr) (k0 k1 : Int64) (h0 : Heap) (Z0 : n0 ≤ h0.size) (S : own_S Z h0 a 0 0 (0, 0, 0, 0)) (g_a : n0 ≤ a) :
    OCon l Z n0 (⟨"com/example/planwright/planwright/census/SipHash", "<init>", "(JJ)V"⟩ : MethodName) prog_20_method_1_code 5 none ({ frames := 1, cells := 0, slots := 0, locals := 12 } : Room) #[(.ref a), (.long k0), (.long k1)] h0 (fun v h => v = none ∧ Keep h0 h [a] ∧ own_S Z h a k0 k1 (0, 0, 0, 0)) := by
  refine OCon.of (Ls := #[.val (.ref a), .val (.long k0), .second, .val (.long k1), .second]) pn_3 rfl rfl (fun m => by first | (simp [entryFrame, mkF, argsToLocals, Value.category]; done) | rfl) ?_
  intro p e s m below meth c T0 X0 K e0
  have N0 := Fr.nil n0
  have KK0 := Keep.refl h0 [a]
  obtain ⟨Ea, Fa_key0, Fa_key1, Fa_v0, Fa_v1, Fa_v2, Fa_v3⟩ := S
  refine o_aloadN X0 K d3_0 1 rfl rfl rfl ?_
  refine o_initO X0 K d3_1 4 rfl (w_16 hw) (w_17 hw) (w_18 hw) e0 rfl (by decide) 0 (Nat.le_of_eq rfl) (by decide) ?_
  intro T_13 X_13 e_13
  refine o_aloadN X_13 K d3_4 5 rfl rfl rfl ?_
  refine o_lloadN X_13 K d3_5 6 rfl rfl ?_
  refine o_putfield X_13 K (host := "") (ty := .long) d3_6 9 rfl (Or.inl (w_19 hw)) Via.refl e_13 Fa_key0 Ea (Or.inr ⟨(w_20 hw), rfl, rfl⟩) (w_9 hw) (by decide) rfl rfl N0 g_a ?_
  intro T_14 h_14 locs_14 X_14 e_14 W_14 N_14
  have Z_14 : n0 ≤ h_14.size := by rw [Wr.size W_14]; exact Z0
  have K_14 := KK0.wr W_14 (Or.inl (by simp))
  have f_15 := Exa.wr W_14 Ea
  have f_16 := Fld.same W_14 Fa_key0
  have f_17 := Fld.other W_14 Fa_key1 (Or.inr (slot_ne (Or.inr (w_22 hw)) (Or.inr (w_20 hw)) (by decide) (t := .long) (t' := .long) (by decide) (by decide)))
  have f_18 := Fld.other W_14 Fa_v0 (Or.inr (slot_ne (Or.inl (w_30 hw)) (Or.inr (w_20 hw)) (by decide) (t := .long) (t' := .long) (by decide) (by decide)))
  have f_19 := Fld.other W_14 Fa_v1 (Or.inr (slot_ne (Or.inl (w_33 hw)) (Or.inr (w_20 hw)) (by decide) (t := .long) (t' := .long) (by decide) (by decide)))
  have f_20 := Fld.other W_14 Fa_v2 (Or.inr (slot_ne (Or.inl (w_36 hw)) (Or.inr (w_20 hw)) (by decide) (t := .long) (t' := .long) (by decide) (by decide)))
  have f_21 := Fld.other W_14 Fa_v3 (Or.inr (slot_ne (Or.inl (w_39 hw)) (Or.inr (w_20 hw)) (by decide) (t := .long) (t' := .long) (by decide) (by decide)))
  refine o_aloadN X_14 K d3_9 10 rfl rfl rfl ?_
  refine o_lloadN X_14 K d3_10 11 rfl rfl ?_
  refine o_putfield X_14 K (host := "") (ty := .long) d3_11 14 rfl (Or.inl (w_21 hw)) Via.refl e_14 f_17 f_15 (Or.inr ⟨(w_22 hw), rfl, rfl⟩) (w_9 hw) (by decide) rfl rfl N_14 g_a ?_
  intro T_22 h_22 locs_22 X_22 e_22 W_22 N_22
  have Z_22 : n0 ≤ h_22.size := by rw [Wr.size W_22]; exact Z_14
  have K_22 := K_14.wr W_22 (Or.inl (by simp))
  have f_23 := Exa.wr W_22 f_15
  have f_24 := Fld.other W_22 f_16 (Or.inr (slot_ne (Or.inr (w_20 hw)) (Or.inr (w_22 hw)) (by decide) (t := .long) (t' := .long) (by decide) (by decide)))
  have f_25 := Fld.same W_22 f_17
  have f_26 := Fld.other W_22 f_18 (Or.inr (slot_ne (Or.inl (w_30 hw)) (Or.inr (w_22 hw)) (by decide) (t := .long) (t' := .long) (by decide) (by decide)))
  have f_27 := Fld.other W_22 f_19 (Or.inr (slot_ne (Or.inl (w_33 hw)) (Or.inr (w_22 hw)) (by decide) (t := .long) (t' := .long) (by decide) (by decide)))
  have f_28 := Fld.other W_22 f_20 (Or.inr (slot_ne (Or.inl (w_36 hw)) (Or.inr (w_22 hw)) (by decide) (t := .long) (t' := .long) (by decide) (by decide)))
  have f_29 := Fld.other W_22 f_21 (Or.inr (slot_ne (Or.inl (w_39 hw)) (Or.inr (w_22 hw)) (by decide) (t := .long) (t' := .long) (by decide) (by decide)))
  refine o_return X_22 K d3_14 (by decide) (by decide) N_22 ?_
  rw [e_22]
  exact ⟨rfl, K_22, ⟨f_23, f_24, f_25, f_26, f_27, f_28, f_29⟩⟩
theorem d8_0 : decode prog_20_method_4_code 0 = .ok (.iconst 0, 1) := by decide +kernel
theorem d8_1 : decode prog_20_method_4_code 1 = .ok (.istore_n 2, 1) := by decide +kernel
theorem d8_2 : decode prog_20_method_4_code 2 = .ok (.iload_n 2, 1) := by decide +kernel
theorem d8_3 : decode prog_20_method_4_code 3 = .ok (.iload_n 1, 1) := by decide +kernel
theorem d8_4 : decode prog_20_method_4_code 4 = .ok (.if_icmp .ge 159, 3) := by decide +kernel
theorem d8_163 : decode prog_20_method_4_code 163 = .ok (.return_, 1) := by decide +kernel
theorem d8_7 : decode prog_20_method_4_code 7 = .ok (.aload_n 0, 1) := by decide +kernel
theorem d8_8 : decode prog_20_method_4_code 8 = .ok (.dup, 1) := by decide +kernel
theorem d8_9 : decode prog_20_method_4_code 9 = .ok (.getfield 18, 3) := by decide +kernel
theorem d8_12 : decode prog_20_method_4_code 12 = .ok (.aload_n 0, 1) := by decide +kernel
theorem d8_13 : decode prog_20_method_4_code 13 = .ok (.getfield 23, 3) := by decide +kernel
theorem d8_16 : decode prog_20_method_4_code 16 = .ok (.ladd, 1) := by decide +kernel
theorem d8_17 : decode prog_20_method_4_code 17 = .ok (.putfield 18, 3) := by decide +kernel
theorem d8_20 : decode prog_20_method_4_code 20 = .ok (.aload_n 0, 1) := by decide +kernel
theorem d8_21 : decode prog_20_method_4_code 21 = .ok (.aload_n 0, 1) := by decide +kernel
theorem d8_22 : decode prog_20_method_4_code 22 = .ok (.getfield 23, 3) := by decide +kernel
theorem d8_25 : decode prog_20_method_4_code 25 = .ok (.bipush 13, 2) := by decide +kernel
theorem d8_27 : decode prog_20_method_4_code 27 = .ok (.invokestatic 50, 3) := by decide +kernel
theorem pd__JI_J : parseMethodDescriptor "(JI)J" = some ⟨[.long, .int], some .long⟩ := by decide +kernel
theorem d8_30 : decode prog_20_method_4_code 30 = .ok (.aload_n 0, 1) := by decide +kernel
theorem d8_31 : decode prog_20_method_4_code 31 = .ok (.getfield 18, 3) := by decide +kernel
theorem d8_34 : decode prog_20_method_4_code 34 = .ok (.lxor, 1) := by decide +kernel
theorem d8_35 : decode prog_20_method_4_code 35 = .ok (.putfield 23, 3) := by decide +kernel
theorem d8_38 : decode prog_20_method_4_code 38 = .ok (.aload_n 0, 1) := by decide +kernel
theorem d8_39 : decode prog_20_method_4_code 39 = .ok (.aload_n 0, 1) := by decide +kernel
theorem d8_40 : decode prog_20_method_4_code 40 = .ok (.getfield 18, 3) := by decide +kernel
theorem d8_43 : decode prog_20_method_4_code 43 = .ok (.bipush 32, 2) := by decide +kernel
theorem d8_45 : decode prog_20_method_4_code 45 = .ok (.invokestatic 50, 3) := by decide +kernel
theorem d8_48 : decode prog_20_method_4_code 48 = .ok (.putfield 18, 3) := by decide +kernel
theorem d8_51 : decode prog_20_method_4_code 51 = .ok (.aload_n 0, 1) := by decide +kernel
theorem d8_52 : decode prog_20_method_4_code 52 = .ok (.dup, 1) := by decide +kernel
theorem d8_53 : decode prog_20_method_4_code 53 = .ok (.getfield 28, 3) := by decide +kernel
theorem d8_56 : decode prog_20_method_4_code 56 = .ok (.aload_n 0, 1) := by decide +kernel
theorem d8_57 : decode prog_20_method_4_code 57 = .ok (.getfield 33, 3) := by decide +kernel
theorem d8_60 : decode prog_20_method_4_code 60 = .ok (.ladd, 1) := by decide +kernel
theorem d8_61 : decode prog_20_method_4_code 61 = .ok (.putfield 28, 3) := by decide +kernel
theorem d8_64 : decode prog_20_method_4_code 64 = .ok (.aload_n 0, 1) := by decide +kernel
theorem d8_65 : decode prog_20_method_4_code 65 = .ok (.aload_n 0, 1) := by decide +kernel
theorem d8_66 : decode prog_20_method_4_code 66 = .ok (.getfield 33, 3) := by decide +kernel
theorem d8_69 : decode prog_20_method_4_code 69 = .ok (.bipush 16, 2) := by decide +kernel
theorem d8_71 : decode prog_20_method_4_code 71 = .ok (.invokestatic 50, 3) := by decide +kernel
theorem d8_74 : decode prog_20_method_4_code 74 = .ok (.aload_n 0, 1) := by decide +kernel
theorem d8_75 : decode prog_20_method_4_code 75 = .ok (.getfield 28, 3) := by decide +kernel
theorem d8_78 : decode prog_20_method_4_code 78 = .ok (.lxor, 1) := by decide +kernel
theorem d8_79 : decode prog_20_method_4_code 79 = .ok (.putfield 33, 3) := by decide +kernel
theorem d8_82 : decode prog_20_method_4_code 82 = .ok (.aload_n 0, 1) := by decide +kernel
theorem d8_83 : decode prog_20_method_4_code 83 = .ok (.dup, 1) := by decide +kernel
theorem d8_84 : decode prog_20_method_4_code 84 = .ok (.getfield 18, 3) := by decide +kernel
theorem d8_87 : decode prog_20_method_4_code 87 = .ok (.aload_n 0, 1) := by decide +kernel
theorem d8_88 : decode prog_20_method_4_code 88 = .ok (.getfield 33, 3) := by decide +kernel
theorem d8_91 : decode prog_20_method_4_code 91 = .ok (.ladd, 1) := by decide +kernel
theorem d8_92 : decode prog_20_method_4_code 92 = .ok (.putfield 18, 3) := by decide +kernel
theorem d8_95 : decode prog_20_method_4_code 95 = .ok (.aload_n 0, 1) := by decide +kernel
theorem d8_96 : decode prog_20_method_4_code 96 = .ok (.aload_n 0, 1) := by decide +kernel
theorem d8_97 : decode prog_20_method_4_code 97 = .ok (.getfield 33, 3) := by decide +kernel
theorem d8_100 : decode prog_20_method_4_code 100 = .ok (.bipush 21, 2) := by decide +kernel
theorem d8_102 : decode prog_20_method_4_code 102 = .ok (.invokestatic 50, 3) := by decide +kernel
theorem d8_105 : decode prog_20_method_4_code 105 = .ok (.aload_n 0, 1) := by decide +kernel
theorem d8_106 : decode prog_20_method_4_code 106 = .ok (.getfield 18, 3) := by decide +kernel
theorem d8_109 : decode prog_20_method_4_code 109 = .ok (.lxor, 1) := by decide +kernel
theorem d8_110 : decode prog_20_method_4_code 110 = .ok (.putfield 33, 3) := by decide +kernel
theorem d8_113 : decode prog_20_method_4_code 113 = .ok (.aload_n 0, 1) := by decide +kernel
theorem d8_114 : decode prog_20_method_4_code 114 = .ok (.dup, 1) := by decide +kernel
theorem d8_115 : decode prog_20_method_4_code 115 = .ok (.getfield 28, 3) := by decide +kernel
theorem d8_118 : decode prog_20_method_4_code 118 = .ok (.aload_n 0, 1) := by decide +kernel
theorem d8_119 : decode prog_20_method_4_code 119 = .ok (.getfield 23, 3) := by decide +kernel
theorem d8_122 : decode prog_20_method_4_code 122 = .ok (.ladd, 1) := by decide +kernel
theorem d8_123 : decode prog_20_method_4_code 123 = .ok (.putfield 28, 3) := by decide +kernel
theorem d8_126 : decode prog_20_method_4_code 126 = .ok (.aload_n 0, 1) := by decide +kernel
theorem d8_127 : decode prog_20_method_4_code 127 = .ok (.aload_n 0, 1) := by decide +kernel
theorem d8_128 : decode prog_20_method_4_code 128 = .ok (.getfield 23, 3) := by decide +kernel
theorem d8_131 : decode prog_20_method_4_code 131 = .ok (.bipush 17, 2) := by decide +kernel
theorem d8_133 : decode prog_20_method_4_code 133 = .ok (.invokestatic 50, 3) := by decide +kernel
theorem d8_136 : decode prog_20_method_4_code 136 = .ok (.aload_n 0, 1) := by decide +kernel
theorem d8_137 : decode prog_20_method_4_code 137 = .ok (.getfield 28, 3) := by decide +kernel
theorem d8_140 : decode prog_20_method_4_code 140 = .ok (.lxor, 1) := by decide +kernel
theorem d8_141 : decode prog_20_method_4_code 141 = .ok (.putfield 23, 3) := by decide +kernel
theorem d8_144 : decode prog_20_method_4_code 144 = .ok (.aload_n 0, 1) := by decide +kernel
theorem d8_145 : decode prog_20_method_4_code 145 = .ok (.aload_n 0, 1) := by decide +kernel
theorem d8_146 : decode prog_20_method_4_code 146 = .ok (.getfield 28, 3) := by decide +kernel
theorem d8_149 : decode prog_20_method_4_code 149 = .ok (.bipush 32, 2) := by decide +kernel
theorem d8_151 : decode prog_20_method_4_code 151 = .ok (.invokestatic 50, 3) := by decide +kernel
theorem d8_154 : decode prog_20_method_4_code 154 = .ok (.putfield 28, 3) := by decide +kernel
theorem d8_157 : decode prog_20_method_4_code 157 = .ok (.iinc 2 1, 3) := by decide +kernel
theorem d8_160 : decode prog_20_method_4_code 160 = .ok (.goto (-158), 3) := by decide +kernel
theorem pn_8 : plainFor (⟨"com/example/planwright/planwright/census/SipHash", "rounds", "(I)V"⟩ : MethodName) = true := plainFor_of_name (by first | (simp [plainName, overriddenIn]; done) | decide +kernel)
set_option maxHeartbeats 4000000 in
theorem c_rounds (l : Launch) (Z : State) (a0 : Array Value) (hw : OW Z a0) (n0 : Nat) (a : Addr) (k0 k1 : Int64) (t0 : OSt) (n : Int32) (cnt : Nat) (h0 : Heap) (Z0 : n0 ≤ h0.size) (S : own_S Z h0 a k0 k1 t0) (g_a : n0 ≤ a) (hn : n.toInt = cnt) :
    OCon l Z n0 (⟨"com/example/planwright/planwright/census/SipHash", "rounds", "(I)V"⟩ : MethodName) prog_20_method_4_code 3 none ({ frames := 1, cells := 0, slots := 0, locals := 18 } : Room) #[(.ref a), (.int n)] h0 (fun v h => v = none ∧ Keep h0 h [a] ∧ own_S Z h a k0 k1 (own_rounds cnt t0)) := by
  refine OCon.of (Ls := #[.val (.ref a), .val (.int n), .unset]) pn_8 rfl rfl (fun m => by first | (simp [entryFrame, mkF, argsToLocals, Value.category]; done) | rfl) ?_
  intro p e s m below meth c T0 X0 K e0
  have N0 := Fr.nil n0
  have KK0 := Keep.refl h0 [a]
  refine o_iconst X0 K (0 : Int32) d8_0 1 rfl rfl ?_
  refine o_istoreN X0 K d8_1 2 rfl #[.val (.ref a), .val (.int n), .val (.int (0 : Int32))] rfl rfl ?_
  have l1 : (1 : Int32).toInt = 1 := rfl
  refine o_ind (fun (t : State × Heap × List Loc × Int32 × OSt) => t.1.setTop (mkF m 2 #[.val (.ref a), .val (.int n), .val (.int t.2.2.2.1)] [])) (fun d t => Stand p l e ({ frames := 1, cells := 0, slots := 0, locals := 18 } : Room) s m #[(.ref a), (.int n)] below meth c t.1 t.2.2.1 0 0 ∧ t.1.heap = t.2.1 ∧ Fr n0 t.2.2.1 ∧ Keep h0 t.2.1 [a] ∧ own_S Z t.2.1 a k0 k1 t.2.2.2.2 ∧ 0 ≤ t.2.2.2.1.toInt ∧ t.2.2.2.1.toInt + d = n.toInt ∧ own_rounds d t.2.2.2.2 = own_rounds cnt t0) ?_ ?_ cnt (T0, h0, [], (0 : Int32), t0) ⟨X0, e0, N0, KK0, S, by show (0 : Int) ≤ (0 : Int32).toInt; decide, by show (0 : Int32).toInt + (cnt : Int) = _; have q : (0 : Int32).toInt = 0 := rfl; omega, rfl⟩
  · rintro ⟨T1, h1, locs1, i1, w0, w1, w2, w3⟩ ⟨X1, e1, N1, K1, S1, hi0, hi1, hR⟩
    dsimp only at X1 e1 N1 K1 S1 hi0 hi1 hR
    show OGo p e below s n0 _ _ _ (T1.setTop (mkF m 2 #[.val (.ref a), .val (.int n), .val (.int i1)] []))
    refine o_iloadN X1 K d8_2 3 rfl rfl ?_
    refine o_iloadN X1 K d8_3 4 rfl rfl ?_
    refine o_icmp_ge_t X1 K d8_4 163 (by decide) (by decide) (by omega) ?_
    refine o_return X1 K d8_163 (by decide) (by decide) N1 ?_
    rw [e1]
    exact ⟨rfl, K1, by rw [← hR]; exact S1⟩
  · rintro d ih ⟨T1, h1, locs1, i1, w0, w1, w2, w3⟩ ⟨X1, e1, N1, K1, S1, hi0, hi1, hR⟩
    dsimp only at X1 e1 N1 K1 S1 hi0 hi1 hR
    show OGo p e below s n0 _ _ _ (T1.setTop (mkF m 2 #[.val (.ref a), .val (.int n), .val (.int i1)] []))
    have Z1 : n0 ≤ h1.size := Nat.le_trans Z0 K1.1
    obtain ⟨E1, F1_key0, F1_key1, F1_v0, F1_v1, F1_v2, F1_v3⟩ := S1
    refine o_iloadN X1 K d8_2 3 rfl rfl ?_
    refine o_iloadN X1 K d8_3 4 rfl rfl ?_
    refine o_icmp_ge_f X1 K d8_4 7 rfl (by omega) ?_
    refine o_aloadN X1 K d8_7 8 rfl rfl rfl ?_
    refine o_dup X1 K d8_8 9 rfl rfl ?_
    refine o_getfield X1 K (host := "") d8_9 12 rfl (Or.inl (w_29 hw)) Via.refl e1 F1_v0 ?_
    intro T_30 X_30 e_30
    refine o_aloadN X_30 K d8_12 13 rfl rfl rfl ?_
    refine o_getfield X_30 K (host := "") d8_13 16 rfl (Or.inl (w_32 hw)) Via.refl e_30 F1_v1 ?_
    intro T_31 X_31 e_31
    refine o_ladd X_31 K d8_16 17 rfl ?_
    refine o_putfield X_31 K (host := "") (ty := .long) d8_17 20 rfl (Or.inl (w_29 hw)) Via.refl e_31 F1_v0 E1 (Or.inl (w_30 hw)) (w_9 hw) (by decide) rfl rfl N1 g_a ?_
    intro T_32 h_32 locs_32 X_32 e_32 W_32 N_32
    have Z_32 : n0 ≤ h_32.size := by rw [Wr.size W_32]; exact Z1
    have K_32 := K1.wr W_32 (Or.inl (by simp))
    have f_33 := Exa.wr W_32 E1
    have f_34 := Fld.other W_32 F1_key0 (Or.inr (slot_ne (Or.inr (w_20 hw)) (Or.inl (w_30 hw)) (by decide) (t := .long) (t' := .long) (by decide) (by decide)))
    have f_35 := Fld.other W_32 F1_key1 (Or.inr (slot_ne (Or.inr (w_22 hw)) (Or.inl (w_30 hw)) (by decide) (t := .long) (t' := .long) (by decide) (by decide)))
    have f_36 := Fld.same W_32 F1_v0
    have f_37 := Fld.other W_32 F1_v1 (Or.inr (slot_ne (Or.inl (w_33 hw)) (Or.inl (w_30 hw)) (by decide) (t := .long) (t' := .long) (by decide) (by decide)))
    have f_38 := Fld.other W_32 F1_v2 (Or.inr (slot_ne (Or.inl (w_36 hw)) (Or.inl (w_30 hw)) (by decide) (t := .long) (t' := .long) (by decide) (by decide)))
    have f_39 := Fld.other W_32 F1_v3 (Or.inr (slot_ne (Or.inl (w_39 hw)) (Or.inl (w_30 hw)) (by decide) (t := .long) (t' := .long) (by decide) (by decide)))
    refine o_aloadN X_32 K d8_20 21 rfl rfl rfl ?_
    refine o_aloadN X_32 K d8_21 22 rfl rfl rfl ?_
    refine o_getfield X_32 K (host := "") d8_22 25 rfl (Or.inl (w_32 hw)) Via.refl e_32 f_37 ?_
    intro T_40 X_40 e_40
    refine o_bipush X_40 K (13 : Int32) d8_25 27 rfl rfl ?_
    refine o_invokestatic X_40 K d8_27 30 rfl (w_51 hw) (w_52 hw) (w_53 hw) (w_54 hw) (by decide) [(.long w1), (.int (13 : Int32))] [(.ref a)] rfl  (c_rot l Z a0 hw n0 w1 (13 : Int32) h_32 Z_32 ) e_40 rfl (lenOf pd__JI_J rfl) (by decide) 1 (Nat.le_of_eq rfl) (by decide) (by decide) (by decide) N_32 ?_
    rintro _ T_41 h_41 locs_41 X_41 q_41 ⟨rfl, r_41⟩ N_41
    have e_41 := q_41.trans r_41
    show OGo p e below s n0 _ _ _ (T_41.setTop (mkF m 30 #[.val (.ref a), .val (.int n), .val (.int i1)] [(.long (own_rot w1 (13 : Int32))), (.ref a)]))
    refine o_aloadN X_41 K d8_30 31 rfl rfl rfl ?_
    refine o_getfield X_41 K (host := "") d8_31 34 rfl (Or.inl (w_29 hw)) Via.refl e_41 f_36 ?_
    intro T_42 X_42 e_42
    refine o_lxor X_42 K d8_34 35 rfl ?_
    refine o_putfield X_42 K (host := "") (ty := .long) d8_35 38 rfl (Or.inl (w_32 hw)) Via.refl e_42 f_37 f_33 (Or.inl (w_33 hw)) (w_9 hw) (by decide) rfl rfl N_41 g_a ?_
    intro T_43 h_43 locs_43 X_43 e_43 W_43 N_43
    have Z_43 : n0 ≤ h_43.size := by rw [Wr.size W_43]; exact Z_32
    have K_43 := K_32.wr W_43 (Or.inl (by simp))
    have f_44 := Exa.wr W_43 f_33
    have f_45 := Fld.other W_43 f_34 (Or.inr (slot_ne (Or.inr (w_20 hw)) (Or.inl (w_33 hw)) (by decide) (t := .long) (t' := .long) (by decide) (by decide)))
    have f_46 := Fld.other W_43 f_35 (Or.inr (slot_ne (Or.inr (w_22 hw)) (Or.inl (w_33 hw)) (by decide) (t := .long) (t' := .long) (by decide) (by decide)))
    have f_47 := Fld.other W_43 f_36 (Or.inr (slot_ne (Or.inl (w_30 hw)) (Or.inl (w_33 hw)) (by decide) (t := .long) (t' := .long) (by decide) (by decide)))
    have f_48 := Fld.same W_43 f_37
    have f_49 := Fld.other W_43 f_38 (Or.inr (slot_ne (Or.inl (w_36 hw)) (Or.inl (w_33 hw)) (by decide) (t := .long) (t' := .long) (by decide) (by decide)))
    have f_50 := Fld.other W_43 f_39 (Or.inr (slot_ne (Or.inl (w_39 hw)) (Or.inl (w_33 hw)) (by decide) (t := .long) (t' := .long) (by decide) (by decide)))
    refine o_aloadN X_43 K d8_38 39 rfl rfl rfl ?_
    refine o_aloadN X_43 K d8_39 40 rfl rfl rfl ?_
    refine o_getfield X_43 K (host := "") d8_40 43 rfl (Or.inl (w_29 hw)) Via.refl e_43 f_47 ?_
    intro T_51 X_51 e_51
    refine o_bipush X_51 K (32 : Int32) d8_43 45 rfl rfl ?_
    refine o_invokestatic X_51 K d8_45 48 rfl (w_51 hw) (w_52 hw) (w_53 hw) (w_54 hw) (by decide) [(.long (w0 + w1)), (.int (32 : Int32))] [(.ref a)] rfl  (c_rot l Z a0 hw n0 (w0 + w1) (32 : Int32) h_43 Z_43 ) e_51 rfl (lenOf pd__JI_J rfl) (by decide) 1 (Nat.le_of_eq rfl) (by decide) (by decide) (by decide) N_43 ?_
    rintro _ T_52 h_52 locs_52 X_52 q_52 ⟨rfl, r_52⟩ N_52
    have e_52 := q_52.trans r_52
    show OGo p e below s n0 _ _ _ (T_52.setTop (mkF m 48 #[.val (.ref a), .val (.int n), .val (.int i1)] [(.long (own_rot (w0 + w1) (32 : Int32))), (.ref a)]))
    refine o_putfield X_52 K (host := "") (ty := .long) d8_48 51 rfl (Or.inl (w_29 hw)) Via.refl e_52 f_47 f_44 (Or.inl (w_30 hw)) (w_9 hw) (by decide) rfl rfl N_52 g_a ?_
    intro T_53 h_53 locs_53 X_53 e_53 W_53 N_53
    have Z_53 : n0 ≤ h_53.size := by rw [Wr.size W_53]; exact Z_43
    have K_53 := K_43.wr W_53 (Or.inl (by simp))
    have f_54 := Exa.wr W_53 f_44
    have f_55 := Fld.other W_53 f_45 (Or.inr (slot_ne (Or.inr (w_20 hw)) (Or.inl (w_30 hw)) (by decide) (t := .long) (t' := .long) (by decide) (by decide)))
    have f_56 := Fld.other W_53 f_46 (Or.inr (slot_ne (Or.inr (w_22 hw)) (Or.inl (w_30 hw)) (by decide) (t := .long) (t' := .long) (by decide) (by decide)))
    have f_57 := Fld.same W_53 f_47
    have f_58 := Fld.other W_53 f_48 (Or.inr (slot_ne (Or.inl (w_33 hw)) (Or.inl (w_30 hw)) (by decide) (t := .long) (t' := .long) (by decide) (by decide)))
    have f_59 := Fld.other W_53 f_49 (Or.inr (slot_ne (Or.inl (w_36 hw)) (Or.inl (w_30 hw)) (by decide) (t := .long) (t' := .long) (by decide) (by decide)))
    have f_60 := Fld.other W_53 f_50 (Or.inr (slot_ne (Or.inl (w_39 hw)) (Or.inl (w_30 hw)) (by decide) (t := .long) (t' := .long) (by decide) (by decide)))
    refine o_aloadN X_53 K d8_51 52 rfl rfl rfl ?_
    refine o_dup X_53 K d8_52 53 rfl rfl ?_
    refine o_getfield X_53 K (host := "") d8_53 56 rfl (Or.inl (w_35 hw)) Via.refl e_53 f_59 ?_
    intro T_61 X_61 e_61
    refine o_aloadN X_61 K d8_56 57 rfl rfl rfl ?_
    refine o_getfield X_61 K (host := "") d8_57 60 rfl (Or.inl (w_38 hw)) Via.refl e_61 f_60 ?_
    intro T_62 X_62 e_62
    refine o_ladd X_62 K d8_60 61 rfl ?_
    refine o_putfield X_62 K (host := "") (ty := .long) d8_61 64 rfl (Or.inl (w_35 hw)) Via.refl e_62 f_59 f_54 (Or.inl (w_36 hw)) (w_9 hw) (by decide) rfl rfl N_53 g_a ?_
    intro T_63 h_63 locs_63 X_63 e_63 W_63 N_63
    have Z_63 : n0 ≤ h_63.size := by rw [Wr.size W_63]; exact Z_53
    have K_63 := K_53.wr W_63 (Or.inl (by simp))
    have f_64 := Exa.wr W_63 f_54
    have f_65 := Fld.other W_63 f_55 (Or.inr (slot_ne (Or.inr (w_20 hw)) (Or.inl (w_36 hw)) (by decide) (t := .long) (t' := .long) (by decide) (by decide)))
    have f_66 := Fld.other W_63 f_56 (Or.inr (slot_ne (Or.inr (w_22 hw)) (Or.inl (w_36 hw)) (by decide) (t := .long) (t' := .long) (by decide) (by decide)))
    have f_67 := Fld.other W_63 f_57 (Or.inr (slot_ne (Or.inl (w_30 hw)) (Or.inl (w_36 hw)) (by decide) (t := .long) (t' := .long) (by decide) (by decide)))
    have f_68 := Fld.other W_63 f_58 (Or.inr (slot_ne (Or.inl (w_33 hw)) (Or.inl (w_36 hw)) (by decide) (t := .long) (t' := .long) (by decide) (by decide)))
    have f_69 := Fld.same W_63 f_59
    have f_70 := Fld.other W_63 f_60 (Or.inr (slot_ne (Or.inl (w_39 hw)) (Or.inl (w_36 hw)) (by decide) (t := .long) (t' := .long) (by decide) (by decide)))
    refine o_aloadN X_63 K d8_64 65 rfl rfl rfl ?_
    refine o_aloadN X_63 K d8_65 66 rfl rfl rfl ?_
    refine o_getfield X_63 K (host := "") d8_66 69 rfl (Or.inl (w_38 hw)) Via.refl e_63 f_70 ?_
    intro T_71 X_71 e_71
    refine o_bipush X_71 K (16 : Int32) d8_69 71 rfl rfl ?_
    refine o_invokestatic X_71 K d8_71 74 rfl (w_51 hw) (w_52 hw) (w_53 hw) (w_54 hw) (by decide) [(.long w3), (.int (16 : Int32))] [(.ref a)] rfl  (c_rot l Z a0 hw n0 w3 (16 : Int32) h_63 Z_63 ) e_71 rfl (lenOf pd__JI_J rfl) (by decide) 1 (Nat.le_of_eq rfl) (by decide) (by decide) (by decide) N_63 ?_
    rintro _ T_72 h_72 locs_72 X_72 q_72 ⟨rfl, r_72⟩ N_72
    have e_72 := q_72.trans r_72
    show OGo p e below s n0 _ _ _ (T_72.setTop (mkF m 74 #[.val (.ref a), .val (.int n), .val (.int i1)] [(.long (own_rot w3 (16 : Int32))), (.ref a)]))
    refine o_aloadN X_72 K d8_74 75 rfl rfl rfl ?_
    refine o_getfield X_72 K (host := "") d8_75 78 rfl (Or.inl (w_35 hw)) Via.refl e_72 f_69 ?_
    intro T_73 X_73 e_73
    refine o_lxor X_73 K d8_78 79 rfl ?_
    refine o_putfield X_73 K (host := "") (ty := .long) d8_79 82 rfl (Or.inl (w_38 hw)) Via.refl e_73 f_70 f_64 (Or.inl (w_39 hw)) (w_9 hw) (by decide) rfl rfl N_72 g_a ?_
    intro T_74 h_74 locs_74 X_74 e_74 W_74 N_74
    have Z_74 : n0 ≤ h_74.size := by rw [Wr.size W_74]; exact Z_63
    have K_74 := K_63.wr W_74 (Or.inl (by simp))
    have f_75 := Exa.wr W_74 f_64
    have f_76 := Fld.other W_74 f_65 (Or.inr (slot_ne (Or.inr (w_20 hw)) (Or.inl (w_39 hw)) (by decide) (t := .long) (t' := .long) (by decide) (by decide)))
    have f_77 := Fld.other W_74 f_66 (Or.inr (slot_ne (Or.inr (w_22 hw)) (Or.inl (w_39 hw)) (by decide) (t := .long) (t' := .long) (by decide) (by decide)))
    have f_78 := Fld.other W_74 f_67 (Or.inr (slot_ne (Or.inl (w_30 hw)) (Or.inl (w_39 hw)) (by decide) (t := .long) (t' := .long) (by decide) (by decide)))
    have f_79 := Fld.other W_74 f_68 (Or.inr (slot_ne (Or.inl (w_33 hw)) (Or.inl (w_39 hw)) (by decide) (t := .long) (t' := .long) (by decide) (by decide)))
    have f_80 := Fld.other W_74 f_69 (Or.inr (slot_ne (Or.inl (w_36 hw)) (Or.inl (w_39 hw)) (by decide) (t := .long) (t' := .long) (by decide) (by decide)))
    have f_81 := Fld.same W_74 f_70
    refine o_aloadN X_74 K d8_82 83 rfl rfl rfl ?_
    refine o_dup X_74 K d8_83 84 rfl rfl ?_
    refine o_getfield X_74 K (host := "") d8_84 87 rfl (Or.inl (w_29 hw)) Via.refl e_74 f_78 ?_
    intro T_82 X_82 e_82
    refine o_aloadN X_82 K d8_87 88 rfl rfl rfl ?_
    refine o_getfield X_82 K (host := "") d8_88 91 rfl (Or.inl (w_38 hw)) Via.refl e_82 f_81 ?_
    intro T_83 X_83 e_83
    refine o_ladd X_83 K d8_91 92 rfl ?_
    refine o_putfield X_83 K (host := "") (ty := .long) d8_92 95 rfl (Or.inl (w_29 hw)) Via.refl e_83 f_78 f_75 (Or.inl (w_30 hw)) (w_9 hw) (by decide) rfl rfl N_74 g_a ?_
    intro T_84 h_84 locs_84 X_84 e_84 W_84 N_84
    have Z_84 : n0 ≤ h_84.size := by rw [Wr.size W_84]; exact Z_74
    have K_84 := K_74.wr W_84 (Or.inl (by simp))
    have f_85 := Exa.wr W_84 f_75
    have f_86 := Fld.other W_84 f_76 (Or.inr (slot_ne (Or.inr (w_20 hw)) (Or.inl (w_30 hw)) (by decide) (t := .long) (t' := .long) (by decide) (by decide)))
    have f_87 := Fld.other W_84 f_77 (Or.inr (slot_ne (Or.inr (w_22 hw)) (Or.inl (w_30 hw)) (by decide) (t := .long) (t' := .long) (by decide) (by decide)))
    have f_88 := Fld.same W_84 f_78
    have f_89 := Fld.other W_84 f_79 (Or.inr (slot_ne (Or.inl (w_33 hw)) (Or.inl (w_30 hw)) (by decide) (t := .long) (t' := .long) (by decide) (by decide)))
    have f_90 := Fld.other W_84 f_80 (Or.inr (slot_ne (Or.inl (w_36 hw)) (Or.inl (w_30 hw)) (by decide) (t := .long) (t' := .long) (by decide) (by decide)))
    have f_91 := Fld.other W_84 f_81 (Or.inr (slot_ne (Or.inl (w_39 hw)) (Or.inl (w_30 hw)) (by decide) (t := .long) (t' := .long) (by decide) (by decide)))
    refine o_aloadN X_84 K d8_95 96 rfl rfl rfl ?_
    refine o_aloadN X_84 K d8_96 97 rfl rfl rfl ?_
    refine o_getfield X_84 K (host := "") d8_97 100 rfl (Or.inl (w_38 hw)) Via.refl e_84 f_91 ?_
    intro T_92 X_92 e_92
    refine o_bipush X_92 K (21 : Int32) d8_100 102 rfl rfl ?_
    refine o_invokestatic X_92 K d8_102 105 rfl (w_51 hw) (w_52 hw) (w_53 hw) (w_54 hw) (by decide) [(.long ((own_rot w3 (16 : Int32)) ^^^ (w2 + w3))), (.int (21 : Int32))] [(.ref a)] rfl  (c_rot l Z a0 hw n0 ((own_rot w3 (16 : Int32)) ^^^ (w2 + w3)) (21 : Int32) h_84 Z_84 ) e_92 rfl (lenOf pd__JI_J rfl) (by decide) 1 (Nat.le_of_eq rfl) (by decide) (by decide) (by decide) N_84 ?_
    rintro _ T_93 h_93 locs_93 X_93 q_93 ⟨rfl, r_93⟩ N_93
    have e_93 := q_93.trans r_93
    show OGo p e below s n0 _ _ _ (T_93.setTop (mkF m 105 #[.val (.ref a), .val (.int n), .val (.int i1)] [(.long (own_rot ((own_rot w3 (16 : Int32)) ^^^ (w2 + w3)) (21 : Int32))), (.ref a)]))
    refine o_aloadN X_93 K d8_105 106 rfl rfl rfl ?_
    refine o_getfield X_93 K (host := "") d8_106 109 rfl (Or.inl (w_29 hw)) Via.refl e_93 f_88 ?_
    intro T_94 X_94 e_94
    refine o_lxor X_94 K d8_109 110 rfl ?_
    refine o_putfield X_94 K (host := "") (ty := .long) d8_110 113 rfl (Or.inl (w_38 hw)) Via.refl e_94 f_91 f_85 (Or.inl (w_39 hw)) (w_9 hw) (by decide) rfl rfl N_93 g_a ?_
    intro T_95 h_95 locs_95 X_95 e_95 W_95 N_95
    have Z_95 : n0 ≤ h_95.size := by rw [Wr.size W_95]; exact Z_84
    have K_95 := K_84.wr W_95 (Or.inl (by simp))
    have f_96 := Exa.wr W_95 f_85
    have f_97 := Fld.other W_95 f_86 (Or.inr (slot_ne (Or.inr (w_20 hw)) (Or.inl (w_39 hw)) (by decide) (t := .long) (t' := .long) (by decide) (by decide)))
    have f_98 := Fld.other W_95 f_87 (Or.inr (slot_ne (Or.inr (w_22 hw)) (Or.inl (w_39 hw)) (by decide) (t := .long) (t' := .long) (by decide) (by decide)))
    have f_99 := Fld.other W_95 f_88 (Or.inr (slot_ne (Or.inl (w_30 hw)) (Or.inl (w_39 hw)) (by decide) (t := .long) (t' := .long) (by decide) (by decide)))
    have f_100 := Fld.other W_95 f_89 (Or.inr (slot_ne (Or.inl (w_33 hw)) (Or.inl (w_39 hw)) (by decide) (t := .long) (t' := .long) (by decide) (by decide)))
    have f_101 := Fld.other W_95 f_90 (Or.inr (slot_ne (Or.inl (w_36 hw)) (Or.inl (w_39 hw)) (by decide) (t := .long) (t' := .long) (by decide) (by decide)))
    have f_102 := Fld.same W_95 f_91
    refine o_aloadN X_95 K d8_113 114 rfl rfl rfl ?_
    refine o_dup X_95 K d8_114 115 rfl rfl ?_
    refine o_getfield X_95 K (host := "") d8_115 118 rfl (Or.inl (w_35 hw)) Via.refl e_95 f_101 ?_
    intro T_103 X_103 e_103
    refine o_aloadN X_103 K d8_118 119 rfl rfl rfl ?_
    refine o_getfield X_103 K (host := "") d8_119 122 rfl (Or.inl (w_32 hw)) Via.refl e_103 f_100 ?_
    intro T_104 X_104 e_104
    refine o_ladd X_104 K d8_122 123 rfl ?_
    refine o_putfield X_104 K (host := "") (ty := .long) d8_123 126 rfl (Or.inl (w_35 hw)) Via.refl e_104 f_101 f_96 (Or.inl (w_36 hw)) (w_9 hw) (by decide) rfl rfl N_95 g_a ?_
    intro T_105 h_105 locs_105 X_105 e_105 W_105 N_105
    have Z_105 : n0 ≤ h_105.size := by rw [Wr.size W_105]; exact Z_95
    have K_105 := K_95.wr W_105 (Or.inl (by simp))
    have f_106 := Exa.wr W_105 f_96
    have f_107 := Fld.other W_105 f_97 (Or.inr (slot_ne (Or.inr (w_20 hw)) (Or.inl (w_36 hw)) (by decide) (t := .long) (t' := .long) (by decide) (by decide)))
    have f_108 := Fld.other W_105 f_98 (Or.inr (slot_ne (Or.inr (w_22 hw)) (Or.inl (w_36 hw)) (by decide) (t := .long) (t' := .long) (by decide) (by decide)))
    have f_109 := Fld.other W_105 f_99 (Or.inr (slot_ne (Or.inl (w_30 hw)) (Or.inl (w_36 hw)) (by decide) (t := .long) (t' := .long) (by decide) (by decide)))
    have f_110 := Fld.other W_105 f_100 (Or.inr (slot_ne (Or.inl (w_33 hw)) (Or.inl (w_36 hw)) (by decide) (t := .long) (t' := .long) (by decide) (by decide)))
    have f_111 := Fld.same W_105 f_101
    have f_112 := Fld.other W_105 f_102 (Or.inr (slot_ne (Or.inl (w_39 hw)) (Or.inl (w_36 hw)) (by decide) (t := .long) (t' := .long) (by decide) (by decide)))
    refine o_aloadN X_105 K d8_126 127 rfl rfl rfl ?_
    refine o_aloadN X_105 K d8_127 128 rfl rfl rfl ?_
    refine o_getfield X_105 K (host := "") d8_128 131 rfl (Or.inl (w_32 hw)) Via.refl e_105 f_110 ?_
    intro T_113 X_113 e_113
    refine o_bipush X_113 K (17 : Int32) d8_131 133 rfl rfl ?_
    refine o_invokestatic X_113 K d8_133 136 rfl (w_51 hw) (w_52 hw) (w_53 hw) (w_54 hw) (by decide) [(.long ((own_rot w1 (13 : Int32)) ^^^ (w0 + w1))), (.int (17 : Int32))] [(.ref a)] rfl  (c_rot l Z a0 hw n0 ((own_rot w1 (13 : Int32)) ^^^ (w0 + w1)) (17 : Int32) h_105 Z_105 ) e_113 rfl (lenOf pd__JI_J rfl) (by decide) 1 (Nat.le_of_eq rfl) (by decide) (by decide) (by decide) N_105 ?_
    rintro _ T_114 h_114 locs_114 X_114 q_114 ⟨rfl, r_114⟩ N_114
    have e_114 := q_114.trans r_114
    show OGo p e below s n0 _ _ _ (T_114.setTop (mkF m 136 #[.val (.ref a), .val (.int n), .val (.int i1)] [(.long (own_rot ((own_rot w1 (13 : Int32)) ^^^ (w0 + w1)) (17 : Int32))), (.ref a)]))
    refine o_aloadN X_114 K d8_136 137 rfl rfl rfl ?_
    refine o_getfield X_114 K (host := "") d8_137 140 rfl (Or.inl (w_35 hw)) Via.refl e_114 f_111 ?_
    intro T_115 X_115 e_115
    refine o_lxor X_115 K d8_140 141 rfl ?_
    refine o_putfield X_115 K (host := "") (ty := .long) d8_141 144 rfl (Or.inl (w_32 hw)) Via.refl e_115 f_110 f_106 (Or.inl (w_33 hw)) (w_9 hw) (by decide) rfl rfl N_114 g_a ?_
    intro T_116 h_116 locs_116 X_116 e_116 W_116 N_116
    have Z_116 : n0 ≤ h_116.size := by rw [Wr.size W_116]; exact Z_105
    have K_116 := K_105.wr W_116 (Or.inl (by simp))
    have f_117 := Exa.wr W_116 f_106
    have f_118 := Fld.other W_116 f_107 (Or.inr (slot_ne (Or.inr (w_20 hw)) (Or.inl (w_33 hw)) (by decide) (t := .long) (t' := .long) (by decide) (by decide)))
    have f_119 := Fld.other W_116 f_108 (Or.inr (slot_ne (Or.inr (w_22 hw)) (Or.inl (w_33 hw)) (by decide) (t := .long) (t' := .long) (by decide) (by decide)))
    have f_120 := Fld.other W_116 f_109 (Or.inr (slot_ne (Or.inl (w_30 hw)) (Or.inl (w_33 hw)) (by decide) (t := .long) (t' := .long) (by decide) (by decide)))
    have f_121 := Fld.same W_116 f_110
    have f_122 := Fld.other W_116 f_111 (Or.inr (slot_ne (Or.inl (w_36 hw)) (Or.inl (w_33 hw)) (by decide) (t := .long) (t' := .long) (by decide) (by decide)))
    have f_123 := Fld.other W_116 f_112 (Or.inr (slot_ne (Or.inl (w_39 hw)) (Or.inl (w_33 hw)) (by decide) (t := .long) (t' := .long) (by decide) (by decide)))
    refine o_aloadN X_116 K d8_144 145 rfl rfl rfl ?_
    refine o_aloadN X_116 K d8_145 146 rfl rfl rfl ?_
    refine o_getfield X_116 K (host := "") d8_146 149 rfl (Or.inl (w_35 hw)) Via.refl e_116 f_122 ?_
    intro T_124 X_124 e_124
    refine o_bipush X_124 K (32 : Int32) d8_149 151 rfl rfl ?_
    refine o_invokestatic X_124 K d8_151 154 rfl (w_51 hw) (w_52 hw) (w_53 hw) (w_54 hw) (by decide) [(.long ((w2 + w3) + ((own_rot w1 (13 : Int32)) ^^^ (w0 + w1)))), (.int (32 : Int32))] [(.ref a)] rfl  (c_rot l Z a0 hw n0 ((w2 + w3) + ((own_rot w1 (13 : Int32)) ^^^ (w0 + w1))) (32 : Int32) h_116 Z_116 ) e_124 rfl (lenOf pd__JI_J rfl) (by decide) 1 (Nat.le_of_eq rfl) (by decide) (by decide) (by decide) N_116 ?_
    rintro _ T_125 h_125 locs_125 X_125 q_125 ⟨rfl, r_125⟩ N_125
    have e_125 := q_125.trans r_125
    show OGo p e below s n0 _ _ _ (T_125.setTop (mkF m 154 #[.val (.ref a), .val (.int n), .val (.int i1)] [(.long (own_rot ((w2 + w3) + ((own_rot w1 (13 : Int32)) ^^^ (w0 + w1))) (32 : Int32))), (.ref a)]))
    refine o_putfield X_125 K (host := "") (ty := .long) d8_154 157 rfl (Or.inl (w_35 hw)) Via.refl e_125 f_122 f_117 (Or.inl (w_36 hw)) (w_9 hw) (by decide) rfl rfl N_125 g_a ?_
    intro T_126 h_126 locs_126 X_126 e_126 W_126 N_126
    have Z_126 : n0 ≤ h_126.size := by rw [Wr.size W_126]; exact Z_116
    have K_126 := K_116.wr W_126 (Or.inl (by simp))
    have f_127 := Exa.wr W_126 f_117
    have f_128 := Fld.other W_126 f_118 (Or.inr (slot_ne (Or.inr (w_20 hw)) (Or.inl (w_36 hw)) (by decide) (t := .long) (t' := .long) (by decide) (by decide)))
    have f_129 := Fld.other W_126 f_119 (Or.inr (slot_ne (Or.inr (w_22 hw)) (Or.inl (w_36 hw)) (by decide) (t := .long) (t' := .long) (by decide) (by decide)))
    have f_130 := Fld.other W_126 f_120 (Or.inr (slot_ne (Or.inl (w_30 hw)) (Or.inl (w_36 hw)) (by decide) (t := .long) (t' := .long) (by decide) (by decide)))
    have f_131 := Fld.other W_126 f_121 (Or.inr (slot_ne (Or.inl (w_33 hw)) (Or.inl (w_36 hw)) (by decide) (t := .long) (t' := .long) (by decide) (by decide)))
    have f_132 := Fld.same W_126 f_122
    have f_133 := Fld.other W_126 f_123 (Or.inr (slot_ne (Or.inl (w_39 hw)) (Or.inl (w_36 hw)) (by decide) (t := .long) (t' := .long) (by decide) (by decide)))
    obtain ⟨i2, h_i2⟩ : ∃ z_ : Int32, z_ = (i1 + (1 : Int32)) := ⟨_, rfl⟩
    refine o_iinc X_126 K d8_157 160 rfl #[.val (.ref a), .val (.int n), .val (.int i2)] rfl h_i2.symm rfl ?_
    refine o_goto X_126 K d8_160 2 (by decide) (by decide) ?_
    have hi2 : i2.toInt = i1.toInt + 1 := by rw [h_i2]; have q2 := c_iadd i1 1; have q3 := rng32 (i1 + 1); have q4 := rng32 n; omega
    exact ih (T_126, h_126, _, i2, own_round (w0, w1, w2, w3)) ⟨X_126, e_126, N_126, K_126, ⟨f_127, f_128, f_129, f_130, f_131, f_132, f_133⟩, by show 0 ≤ i2.toInt; omega, by show i2.toInt + (d : Int) = _; omega, hR⟩
theorem d7_0 : decode prog_20_method_3_code 0 = .ok (.aload_n 0, 1) := by decide +kernel
theorem d7_1 : decode prog_20_method_3_code 1 = .ok (.dup, 1) := by decide +kernel
theorem d7_2 : decode prog_20_method_3_code 2 = .ok (.getfield 33, 3) := by decide +kernel
theorem d7_5 : decode prog_20_method_3_code 5 = .ok (.lload_n 1, 1) := by decide +kernel
theorem d7_6 : decode prog_20_method_3_code 6 = .ok (.lxor, 1) := by decide +kernel
theorem d7_7 : decode prog_20_method_3_code 7 = .ok (.putfield 33, 3) := by decide +kernel
theorem d7_10 : decode prog_20_method_3_code 10 = .ok (.aload_n 0, 1) := by decide +kernel
theorem d7_11 : decode prog_20_method_3_code 11 = .ok (.iconst 2, 1) := by decide +kernel
theorem d7_12 : decode prog_20_method_3_code 12 = .ok (.invokevirtual 46, 3) := by decide +kernel
theorem pd__I_V : parseMethodDescriptor "(I)V" = some ⟨[.int], none⟩ := by decide +kernel
theorem d7_15 : decode prog_20_method_3_code 15 = .ok (.aload_n 0, 1) := by decide +kernel
theorem d7_16 : decode prog_20_method_3_code 16 = .ok (.dup, 1) := by decide +kernel
theorem d7_17 : decode prog_20_method_3_code 17 = .ok (.getfield 18, 3) := by decide +kernel
theorem d7_20 : decode prog_20_method_3_code 20 = .ok (.lload_n 1, 1) := by decide +kernel
theorem d7_21 : decode prog_20_method_3_code 21 = .ok (.lxor, 1) := by decide +kernel
theorem d7_22 : decode prog_20_method_3_code 22 = .ok (.putfield 18, 3) := by decide +kernel
theorem d7_25 : decode prog_20_method_3_code 25 = .ok (.return_, 1) := by decide +kernel
theorem pn_7 : plainFor (⟨"com/example/planwright/planwright/census/SipHash", "absorb", "(J)V"⟩ : MethodName) = true := plainFor_of_name (by first | (simp [plainName, overriddenIn]; done) | decide +kernel)
set_option maxHeartbeats 4000000 in
theorem c_absorb (l : Launch) (Z : State) (a0 : Array Value) (hw : OW Z a0) (n0 : Nat) (a : Addr) (k0 k1 : Int64) (t0 : OSt) (q : Int64) (h0 : Heap) (Z0 : n0 ≤ h0.size) (S : own_S Z h0 a k0 k1 t0) (g_a : n0 ≤ a) :
    OCon l Z n0 (⟨"com/example/planwright/planwright/census/SipHash", "absorb", "(J)V"⟩ : MethodName) prog_20_method_3_code 3 none ({ frames := 2, cells := 0, slots := 0, locals := 32 } : Room) #[(.ref a), (.long q)] h0 (fun v h => v = none ∧ Keep h0 h [a] ∧ own_S Z h a k0 k1 (own_absorb t0 q)) := by
  refine OCon.of (Ls := #[.val (.ref a), .val (.long q), .second]) pn_7 rfl rfl (fun m => by first | (simp [entryFrame, mkF, argsToLocals, Value.category]; done) | rfl) ?_
  intro p e s m below meth c T0 X0 K e0
  have N0 := Fr.nil n0
  have KK0 := Keep.refl h0 [a]
  obtain ⟨Ea, Fa_key0, Fa_key1, Fa_v0, Fa_v1, Fa_v2, Fa_v3⟩ := S
  refine o_aloadN X0 K d7_0 1 rfl rfl rfl ?_
  refine o_dup X0 K d7_1 2 rfl rfl ?_
  refine o_getfield X0 K (host := "") d7_2 5 rfl (Or.inl (w_38 hw)) Via.refl e0 Fa_v3 ?_
  intro T_134 X_134 e_134
  refine o_lloadN X_134 K d7_5 6 rfl rfl ?_
  refine o_lxor X_134 K d7_6 7 rfl ?_
  refine o_putfield X_134 K (host := "") (ty := .long) d7_7 10 rfl (Or.inl (w_38 hw)) Via.refl e_134 Fa_v3 Ea (Or.inl (w_39 hw)) (w_9 hw) (by decide) rfl rfl N0 g_a ?_
  intro T_135 h_135 locs_135 X_135 e_135 W_135 N_135
  have Z_135 : n0 ≤ h_135.size := by rw [Wr.size W_135]; exact Z0
  have K_135 := KK0.wr W_135 (Or.inl (by simp))
  have f_136 := Exa.wr W_135 Ea
  have f_137 := Fld.other W_135 Fa_key0 (Or.inr (slot_ne (Or.inr (w_20 hw)) (Or.inl (w_39 hw)) (by decide) (t := .long) (t' := .long) (by decide) (by decide)))
  have f_138 := Fld.other W_135 Fa_key1 (Or.inr (slot_ne (Or.inr (w_22 hw)) (Or.inl (w_39 hw)) (by decide) (t := .long) (t' := .long) (by decide) (by decide)))
  have f_139 := Fld.other W_135 Fa_v0 (Or.inr (slot_ne (Or.inl (w_30 hw)) (Or.inl (w_39 hw)) (by decide) (t := .long) (t' := .long) (by decide) (by decide)))
  have f_140 := Fld.other W_135 Fa_v1 (Or.inr (slot_ne (Or.inl (w_33 hw)) (Or.inl (w_39 hw)) (by decide) (t := .long) (t' := .long) (by decide) (by decide)))
  have f_141 := Fld.other W_135 Fa_v2 (Or.inr (slot_ne (Or.inl (w_36 hw)) (Or.inl (w_39 hw)) (by decide) (t := .long) (t' := .long) (by decide) (by decide)))
  have f_142 := Fld.same W_135 Fa_v3
  refine o_aloadN X_135 K d7_10 11 rfl rfl rfl ?_
  refine o_iconst X_135 K (2 : Int32) d7_11 12 rfl rfl ?_
  refine o_invokeprivate X_135 K d7_12 15 rfl (w_47 hw) (w_48 hw) (w_49 hw) (w_10 hw) (w_50 hw) (by decide) ⟨6, (w_9 hw)⟩ f_136 [(.int (2 : Int32))] [] rfl  (c_rounds l Z a0 hw n0 a k0 k1 (t0.1, t0.2.1, t0.2.2.1, t0.2.2.2 ^^^ q) 2 2 h_135 Z_135 ⟨f_136, f_137, f_138, f_139, f_140, f_141, f_142⟩ g_a (by decide)) e_135 rfl (lenOf pd__I_V rfl) (by decide) 0 (Nat.le_of_eq rfl) (by decide) (by decide) (by decide) N_135 ?_
  rintro _ T_143 h_143 locs_143 X_143 e_143 ⟨rfl, k_143, S_143⟩ N_143
  have Z_143 : n0 ≤ h_143.size := Nat.le_trans Z_135 k_143.1
  have K_143 := K_135.trans k_143 (allS (Or.inl (by simp)) (all0))
  have f_144 := Exa.keep f_136 k_143
  obtain ⟨Eo_143, Fo_143_key0, Fo_143_key1, Fo_143_v0, Fo_143_v1, Fo_143_v2, Fo_143_v3⟩ := S_143
  show OGo p e below s n0 _ _ _ (T_143.setTop (mkF m 15 #[.val (.ref a), .val (.long q), .second] []))
  refine o_aloadN X_143 K d7_15 16 rfl rfl rfl ?_
  refine o_dup X_143 K d7_16 17 rfl rfl ?_
  refine o_getfield X_143 K (host := "") d7_17 20 rfl (Or.inl (w_29 hw)) Via.refl e_143 Fo_143_v0 ?_
  intro T_145 X_145 e_145
  refine o_lloadN X_145 K d7_20 21 rfl rfl ?_
  refine o_lxor X_145 K d7_21 22 rfl ?_
  refine o_putfield X_145 K (host := "") (ty := .long) d7_22 25 rfl (Or.inl (w_29 hw)) Via.refl e_145 Fo_143_v0 Eo_143 (Or.inl (w_30 hw)) (w_9 hw) (by decide) rfl rfl N_143 g_a ?_
  intro T_146 h_146 locs_146 X_146 e_146 W_146 N_146
  have Z_146 : n0 ≤ h_146.size := by rw [Wr.size W_146]; exact Z_143
  have K_146 := K_143.wr W_146 (Or.inl (by simp))
  have f_147 := Exa.wr W_146 Eo_143
  have f_148 := Fld.other W_146 Fo_143_key0 (Or.inr (slot_ne (Or.inr (w_20 hw)) (Or.inl (w_30 hw)) (by decide) (t := .long) (t' := .long) (by decide) (by decide)))
  have f_149 := Fld.other W_146 Fo_143_key1 (Or.inr (slot_ne (Or.inr (w_22 hw)) (Or.inl (w_30 hw)) (by decide) (t := .long) (t' := .long) (by decide) (by decide)))
  have f_150 := Fld.same W_146 Fo_143_v0
  have f_151 := Fld.other W_146 Fo_143_v1 (Or.inr (slot_ne (Or.inl (w_33 hw)) (Or.inl (w_30 hw)) (by decide) (t := .long) (t' := .long) (by decide) (by decide)))
  have f_152 := Fld.other W_146 Fo_143_v2 (Or.inr (slot_ne (Or.inl (w_36 hw)) (Or.inl (w_30 hw)) (by decide) (t := .long) (t' := .long) (by decide) (by decide)))
  have f_153 := Fld.other W_146 Fo_143_v3 (Or.inr (slot_ne (Or.inl (w_39 hw)) (Or.inl (w_30 hw)) (by decide) (t := .long) (t' := .long) (by decide) (by decide)))
  refine o_return X_146 K d7_25 (by decide) (by decide) N_146 ?_
  rw [e_146]
  exact ⟨rfl, K_146, ⟨f_147, f_148, f_149, f_150, f_151, f_152, f_153⟩⟩
theorem d6_0 : decode prog_20_method_5_code 0 = .ok (.lconst 0, 1) := by decide +kernel
theorem d6_1 : decode prog_20_method_5_code 1 = .ok (.lstore_n 3, 1) := by decide +kernel
theorem d6_2 : decode prog_20_method_5_code 2 = .ok (.iload_n 2, 1) := by decide +kernel
theorem d6_3 : decode prog_20_method_5_code 3 = .ok (.iconst 1, 1) := by decide +kernel
theorem d6_4 : decode prog_20_method_5_code 4 = .ok (.isub, 1) := by decide +kernel
theorem d6_5 : decode prog_20_method_5_code 5 = .ok (.istore 5, 2) := by decide +kernel
theorem d6_7 : decode prog_20_method_5_code 7 = .ok (.iload 5, 2) := by decide +kernel
theorem d6_9 : decode prog_20_method_5_code 9 = .ok (.iload_n 1, 1) := by decide +kernel
theorem d6_10 : decode prog_20_method_5_code 10 = .ok (.if_icmp .lt 24, 3) := by decide +kernel
theorem d6_34 : decode prog_20_method_5_code 34 = .ok (.lload_n 3, 1) := by decide +kernel
theorem d6_35 : decode prog_20_method_5_code 35 = .ok (.lreturn, 1) := by decide +kernel
theorem d6_13 : decode prog_20_method_5_code 13 = .ok (.lload_n 3, 1) := by decide +kernel
theorem d6_14 : decode prog_20_method_5_code 14 = .ok (.bipush 8, 2) := by decide +kernel
theorem d6_16 : decode prog_20_method_5_code 16 = .ok (.lshl, 1) := by decide +kernel
theorem d6_17 : decode prog_20_method_5_code 17 = .ok (.aload_n 0, 1) := by decide +kernel
theorem d6_18 : decode prog_20_method_5_code 18 = .ok (.iload 5, 2) := by decide +kernel
theorem d6_20 : decode prog_20_method_5_code 20 = .ok (.baload, 1) := by decide +kernel
theorem d6_21 : decode prog_20_method_5_code 21 = .ok (.sipush 255, 3) := by decide +kernel
theorem d6_24 : decode prog_20_method_5_code 24 = .ok (.iand, 1) := by decide +kernel
theorem d6_25 : decode prog_20_method_5_code 25 = .ok (.i2l, 1) := by decide +kernel
theorem d6_26 : decode prog_20_method_5_code 26 = .ok (.lor, 1) := by decide +kernel
theorem d6_27 : decode prog_20_method_5_code 27 = .ok (.lstore_n 3, 1) := by decide +kernel
theorem d6_28 : decode prog_20_method_5_code 28 = .ok (.iinc 5 (-1), 3) := by decide +kernel
theorem d6_31 : decode prog_20_method_5_code 31 = .ok (.goto (-24), 3) := by decide +kernel
theorem pn_6 : plainFor (⟨"com/example/planwright/planwright/census/SipHash", "littleEndian", "([BII)J"⟩ : MethodName) = true := plainFor_of_name (by first | (simp [plainName, overriddenIn]; done) | decide +kernel)
set_option maxHeartbeats 4000000 in
theorem c_le (l : Launch) (Z : State) (a0 : Array Value) (hw : OW Z a0) (n0 : Nat) (a : Addr) (g : Nat → Int32) (nn : Nat) (lo hi : Int32) (h0 : Heap) (Z0 : n0 ≤ h0.size) (A_a : OAr Z h0 a .byte nn (fun j => .int (g j))) (hl : 0 ≤ lo.toInt ∧ lo.toInt ≤ hi.toInt ∧ hi.toInt ≤ nn) :
    OCon l Z n0 (⟨"com/example/planwright/planwright/census/SipHash", "littleEndian", "([BII)J"⟩ : MethodName) prog_20_method_5_code 6 (some .long) ({ frames := 0, cells := 0, slots := 0, locals := 0 } : Room) #[(.ref a), (.int lo), (.int hi)] h0 (fun v h => v = some (.long (own_le g lo.toInt.toNat (hi.toInt - lo.toInt).toNat)) ∧ h = h0) := by
  refine OCon.of (Ls := #[.val (.ref a), .val (.int lo), .val (.int hi), .unset, .unset, .unset]) pn_6 rfl rfl (fun m => by first | (simp [entryFrame, mkF, argsToLocals, Value.category]; done) | rfl) ?_
  intro p e s m below meth c T0 X0 K e0
  have N0 := Fr.nil n0
  refine o_lconst X0 K (0 : Int64) d6_0 1 rfl rfl ?_
  refine o_lstoreN X0 K d6_1 2 rfl #[.val (.ref a), .val (.int lo), .val (.int hi), .val (.long (0 : Int64)), .second, .unset] rfl rfl ?_
  refine o_iloadN X0 K d6_2 3 rfl rfl ?_
  refine o_iconst X0 K (1 : Int32) d6_3 4 rfl rfl ?_
  refine o_isub X0 K d6_4 5 rfl ?_
  obtain ⟨i0, h_i0⟩ : ∃ z_ : Int32, z_ = (hi - (1 : Int32)) := ⟨_, rfl⟩
  refine o_istore X0 K d6_5 7 rfl #[.val (.ref a), .val (.int lo), .val (.int hi), .val (.long (0 : Int64)), .second, .val (.int i0)] h_i0.symm rfl ?_
  have l1 : (1 : Int32).toInt = 1 := rfl
  have lm1 : (-1 : Int32).toInt = -1 := rfl
  have hi0 : i0.toInt = hi.toInt - 1 := by rw [h_i0]; have q1 := c_isub hi 1; have q2 := rng32 (hi - 1); have q3 := rng32 hi; omega
  refine o_ind (fun (t : Int32 × Int64) => T0.setTop (mkF m 7 #[.val (.ref a), .val (.int lo), .val (.int hi), .val (.long t.2), .second, .val (.int t.1)] [])) (fun d t => t.1.toInt + 1 = lo.toInt + d ∧ d ≤ (hi.toInt - lo.toInt).toNat ∧ own_lel g lo.toInt.toNat d t.2 = own_le g lo.toInt.toNat (hi.toInt - lo.toInt).toNat) ?_ ?_ (hi.toInt - lo.toInt).toNat (i0, (0 : Int64)) ⟨by show i0.toInt + 1 = _; omega, Nat.le_refl _, rfl⟩
  · rintro ⟨i1, acc⟩ ⟨hi1, hd1, hR⟩
    dsimp only at hi1 hd1 hR
    show OGo p e below s n0 _ _ _ (T0.setTop (mkF m 7 #[.val (.ref a), .val (.int lo), .val (.int hi), .val (.long acc), .second, .val (.int i1)] []))
    refine o_iload X0 K d6_7 9 rfl rfl ?_
    refine o_iloadN X0 K d6_9 10 rfl rfl ?_
    refine o_icmp_lt_t X0 K d6_10 34 (by decide) (by decide) (by omega) ?_
    refine o_lloadN X0 K d6_34 35 rfl rfl ?_
    refine o_lreturn X0 K d6_35 (by decide) (by decide) N0 ?_
    exact ⟨by rw [← hR]; rfl, e0⟩
  · rintro d ih ⟨i1, acc⟩ ⟨hi1, hd1, hR⟩
    dsimp only at hi1 hd1 hR
    show OGo p e below s n0 _ _ _ (T0.setTop (mkF m 7 #[.val (.ref a), .val (.int lo), .val (.int hi), .val (.long acc), .second, .val (.int i1)] []))
    refine o_iload X0 K d6_7 9 rfl rfl ?_
    refine o_iloadN X0 K d6_9 10 rfl rfl ?_
    refine o_icmp_lt_f X0 K d6_10 13 rfl (by omega) ?_
    refine o_lloadN X0 K d6_13 14 rfl rfl ?_
    refine o_bipush X0 K (8 : Int32) d6_14 16 rfl rfl ?_
    refine o_lshl X0 K d6_16 17 rfl ?_
    refine o_aloadN X0 K d6_17 18 rfl rfl rfl ?_
    refine o_iload X0 K d6_18 20 rfl rfl ?_
    refine o_baload X0 K (i := (lo.toInt.toNat + d)) (v := (.int (g (lo.toInt.toNat + d)))) d6_20 21 rfl e0 A_a (by omega) (by omega) (rfl) ?_
    refine o_sipush X0 K (255 : Int32) d6_21 24 rfl rfl ?_
    refine o_iand X0 K d6_24 25 rfl ?_
    refine o_i2l X0 K d6_25 26 rfl ?_
    refine o_lor X0 K d6_26 27 rfl ?_
    refine o_lstoreN X0 K d6_27 28 rfl #[.val (.ref a), .val (.int lo), .val (.int hi), .val (.long ((acc <<< ((8 : Int32) &&& 0x3f).toInt64) ||| (((g (lo.toInt.toNat + d)) &&& (255 : Int32)).toInt64))), .second, .val (.int i1)] rfl rfl ?_
    obtain ⟨i2, h_i2⟩ : ∃ z_ : Int32, z_ = (i1 + (-1 : Int32)) := ⟨_, rfl⟩
    refine o_iinc X0 K d6_28 31 rfl #[.val (.ref a), .val (.int lo), .val (.int hi), .val (.long ((acc <<< ((8 : Int32) &&& 0x3f).toInt64) ||| (((g (lo.toInt.toNat + d)) &&& (255 : Int32)).toInt64))), .second, .val (.int i2)] rfl h_i2.symm rfl ?_
    refine o_goto X0 K d6_31 7 (by decide) (by decide) ?_
    have hi2 : i2.toInt = i1.toInt - 1 := by rw [h_i2]; exact own_dec _ (by omega)
    exact ih (i2, _) ⟨by show i2.toInt + 1 = _; omega, by omega, hR⟩
theorem d5_0 : decode prog_20_method_2_code 0 = .ok (.aload_n 0, 1) := by decide +kernel
theorem d5_1 : decode prog_20_method_2_code 1 = .ok (.aload_n 0, 1) := by decide +kernel
theorem d5_2 : decode prog_20_method_2_code 2 = .ok (.getfield 7, 3) := by decide +kernel
theorem d5_5 : decode prog_20_method_2_code 5 = .ok (.ldc2_w 16, 3) := by decide +kernel
theorem d5_8 : decode prog_20_method_2_code 8 = .ok (.lxor, 1) := by decide +kernel
theorem d5_9 : decode prog_20_method_2_code 9 = .ok (.putfield 18, 3) := by decide +kernel
theorem d5_12 : decode prog_20_method_2_code 12 = .ok (.aload_n 0, 1) := by decide +kernel
theorem d5_13 : decode prog_20_method_2_code 13 = .ok (.aload_n 0, 1) := by decide +kernel
theorem d5_14 : decode prog_20_method_2_code 14 = .ok (.getfield 13, 3) := by decide +kernel
theorem d5_17 : decode prog_20_method_2_code 17 = .ok (.ldc2_w 21, 3) := by decide +kernel
theorem d5_20 : decode prog_20_method_2_code 20 = .ok (.lxor, 1) := by decide +kernel
theorem d5_21 : decode prog_20_method_2_code 21 = .ok (.putfield 23, 3) := by decide +kernel
theorem d5_24 : decode prog_20_method_2_code 24 = .ok (.aload_n 0, 1) := by decide +kernel
theorem d5_25 : decode prog_20_method_2_code 25 = .ok (.aload_n 0, 1) := by decide +kernel
theorem d5_26 : decode prog_20_method_2_code 26 = .ok (.getfield 7, 3) := by decide +kernel
theorem d5_29 : decode prog_20_method_2_code 29 = .ok (.ldc2_w 26, 3) := by decide +kernel
theorem d5_32 : decode prog_20_method_2_code 32 = .ok (.lxor, 1) := by decide +kernel
theorem d5_33 : decode prog_20_method_2_code 33 = .ok (.putfield 28, 3) := by decide +kernel
theorem d5_36 : decode prog_20_method_2_code 36 = .ok (.aload_n 0, 1) := by decide +kernel
theorem d5_37 : decode prog_20_method_2_code 37 = .ok (.aload_n 0, 1) := by decide +kernel
theorem d5_38 : decode prog_20_method_2_code 38 = .ok (.getfield 13, 3) := by decide +kernel
theorem d5_41 : decode prog_20_method_2_code 41 = .ok (.ldc2_w 31, 3) := by decide +kernel
theorem d5_44 : decode prog_20_method_2_code 44 = .ok (.lxor, 1) := by decide +kernel
theorem d5_45 : decode prog_20_method_2_code 45 = .ok (.putfield 33, 3) := by decide +kernel
theorem d5_48 : decode prog_20_method_2_code 48 = .ok (.iload_n 3, 1) := by decide +kernel
theorem d5_49 : decode prog_20_method_2_code 49 = .ok (.iload_n 2, 1) := by decide +kernel
theorem d5_50 : decode prog_20_method_2_code 50 = .ok (.isub, 1) := by decide +kernel
theorem d5_51 : decode prog_20_method_2_code 51 = .ok (.istore 4, 2) := by decide +kernel
theorem d5_53 : decode prog_20_method_2_code 53 = .ok (.iload_n 3, 1) := by decide +kernel
theorem d5_54 : decode prog_20_method_2_code 54 = .ok (.iload 4, 2) := by decide +kernel
theorem d5_56 : decode prog_20_method_2_code 56 = .ok (.bipush 7, 2) := by decide +kernel
theorem d5_58 : decode prog_20_method_2_code 58 = .ok (.iand, 1) := by decide +kernel
theorem d5_59 : decode prog_20_method_2_code 59 = .ok (.isub, 1) := by decide +kernel
theorem d5_60 : decode prog_20_method_2_code 60 = .ok (.istore 5, 2) := by decide +kernel
theorem d5_62 : decode prog_20_method_2_code 62 = .ok (.iload_n 2, 1) := by decide +kernel
theorem d5_63 : decode prog_20_method_2_code 63 = .ok (.istore 6, 2) := by decide +kernel
theorem d5_65 : decode prog_20_method_2_code 65 = .ok (.iload 6, 2) := by decide +kernel
theorem d5_67 : decode prog_20_method_2_code 67 = .ok (.iload 5, 2) := by decide +kernel
theorem d5_69 : decode prog_20_method_2_code 69 = .ok (.if_icmp .ge 24, 3) := by decide +kernel
theorem d5_93 : decode prog_20_method_2_code 93 = .ok (.aload_n 0, 1) := by decide +kernel
theorem d5_94 : decode prog_20_method_2_code 94 = .ok (.aload_n 1, 1) := by decide +kernel
theorem d5_95 : decode prog_20_method_2_code 95 = .ok (.iload 5, 2) := by decide +kernel
theorem d5_97 : decode prog_20_method_2_code 97 = .ok (.iload_n 3, 1) := by decide +kernel
theorem d5_98 : decode prog_20_method_2_code 98 = .ok (.invokestatic 36, 3) := by decide +kernel
theorem pd___BII_J : parseMethodDescriptor "([BII)J" = some ⟨[(.array .byte), .int, .int], some .long⟩ := by decide +kernel
theorem d5_101 : decode prog_20_method_2_code 101 = .ok (.iload 4, 2) := by decide +kernel
theorem d5_103 : decode prog_20_method_2_code 103 = .ok (.i2l, 1) := by decide +kernel
theorem d5_104 : decode prog_20_method_2_code 104 = .ok (.bipush 56, 2) := by decide +kernel
theorem d5_106 : decode prog_20_method_2_code 106 = .ok (.lshl, 1) := by decide +kernel
theorem d5_107 : decode prog_20_method_2_code 107 = .ok (.lor, 1) := by decide +kernel
theorem d5_108 : decode prog_20_method_2_code 108 = .ok (.invokevirtual 40, 3) := by decide +kernel
theorem pd__J_V : parseMethodDescriptor "(J)V" = some ⟨[.long], none⟩ := by decide +kernel
theorem d5_111 : decode prog_20_method_2_code 111 = .ok (.aload_n 0, 1) := by decide +kernel
theorem d5_112 : decode prog_20_method_2_code 112 = .ok (.dup, 1) := by decide +kernel
theorem d5_113 : decode prog_20_method_2_code 113 = .ok (.getfield 28, 3) := by decide +kernel
theorem d5_116 : decode prog_20_method_2_code 116 = .ok (.ldc2_w 44, 3) := by decide +kernel
theorem d5_119 : decode prog_20_method_2_code 119 = .ok (.lxor, 1) := by decide +kernel
theorem d5_120 : decode prog_20_method_2_code 120 = .ok (.putfield 28, 3) := by decide +kernel
theorem d5_123 : decode prog_20_method_2_code 123 = .ok (.aload_n 0, 1) := by decide +kernel
theorem d5_124 : decode prog_20_method_2_code 124 = .ok (.iconst 4, 1) := by decide +kernel
theorem d5_125 : decode prog_20_method_2_code 125 = .ok (.invokevirtual 46, 3) := by decide +kernel
theorem d5_128 : decode prog_20_method_2_code 128 = .ok (.aload_n 0, 1) := by decide +kernel
theorem d5_129 : decode prog_20_method_2_code 129 = .ok (.getfield 18, 3) := by decide +kernel
theorem d5_132 : decode prog_20_method_2_code 132 = .ok (.aload_n 0, 1) := by decide +kernel
theorem d5_133 : decode prog_20_method_2_code 133 = .ok (.getfield 23, 3) := by decide +kernel
theorem d5_136 : decode prog_20_method_2_code 136 = .ok (.lxor, 1) := by decide +kernel
theorem d5_137 : decode prog_20_method_2_code 137 = .ok (.aload_n 0, 1) := by decide +kernel
theorem d5_138 : decode prog_20_method_2_code 138 = .ok (.getfield 28, 3) := by decide +kernel
theorem d5_141 : decode prog_20_method_2_code 141 = .ok (.lxor, 1) := by decide +kernel
theorem d5_142 : decode prog_20_method_2_code 142 = .ok (.aload_n 0, 1) := by decide +kernel
theorem d5_143 : decode prog_20_method_2_code 143 = .ok (.getfield 33, 3) := by decide +kernel
theorem d5_146 : decode prog_20_method_2_code 146 = .ok (.lxor, 1) := by decide +kernel
theorem d5_147 : decode prog_20_method_2_code 147 = .ok (.lreturn, 1) := by decide +kernel
theorem d5_72 : decode prog_20_method_2_code 72 = .ok (.aload_n 0, 1) := by decide +kernel
theorem d5_73 : decode prog_20_method_2_code 73 = .ok (.aload_n 1, 1) := by decide +kernel
theorem d5_74 : decode prog_20_method_2_code 74 = .ok (.iload 6, 2) := by decide +kernel
theorem d5_76 : decode prog_20_method_2_code 76 = .ok (.iload 6, 2) := by decide +kernel
theorem d5_78 : decode prog_20_method_2_code 78 = .ok (.bipush 8, 2) := by decide +kernel
theorem d5_80 : decode prog_20_method_2_code 80 = .ok (.iadd, 1) := by decide +kernel
theorem d5_81 : decode prog_20_method_2_code 81 = .ok (.invokestatic 36, 3) := by decide +kernel
theorem d5_84 : decode prog_20_method_2_code 84 = .ok (.invokevirtual 40, 3) := by decide +kernel
theorem d5_87 : decode prog_20_method_2_code 87 = .ok (.iinc 6 8, 3) := by decide +kernel
theorem d5_90 : decode prog_20_method_2_code 90 = .ok (.goto (-25), 3) := by decide +kernel
theorem pn_5 : plainFor (⟨"com/example/planwright/planwright/census/SipHash", "hash", "([BII)J"⟩ : MethodName) = true := plainFor_of_name (by first | (simp [plainName, overriddenIn]; done) | decide +kernel)
set_option maxHeartbeats 4000000 in
theorem c_hash (l : Launch) (Z : State) (a0 : Array Value) (hw : OW Z a0) (n0 : Nat) (a ar : Addr) (k0 k1 : Int64) (t0 : OSt) (g : Nat → Int32) (nn : Nat) (fr to ln : Int32) (h0 : Heap) (Z0 : n0 ≤ h0.size) (S : own_S Z h0 a k0 k1 t0) (g_a : n0 ≤ a) (A_ar : OAr Z h0 ar .byte nn (fun j => .int (g j))) (ne_ar_a : ar ≠ a) (hl : 0 ≤ fr.toInt ∧ fr.toInt + ln.toInt = to.toInt ∧ 0 ≤ ln.toInt ∧ to.toInt ≤ nn ∧ nn < 1000 ∧ (to - fr) = ln) :
    OCon l Z n0 (⟨"com/example/planwright/planwright/census/SipHash", "hash", "([BII)J"⟩ : MethodName) prog_20_method_2_code 7 (some .long) ({ frames := 3, cells := 0, slots := 0, locals := 49 } : Room) #[(.ref a), (.ref ar), (.int fr), (.int to)] h0 (fun v h => v = some (.long (own_hash k0 k1 g fr.toInt.toNat ln)) ∧ Keep h0 h [a] ∧ ∃ t, own_S Z h a k0 k1 t) := by
  refine OCon.of (Ls := #[.val (.ref a), .val (.ref ar), .val (.int fr), .val (.int to), .unset, .unset, .unset]) pn_5 rfl rfl (fun m => by first | (simp [entryFrame, mkF, argsToLocals, Value.category]; done) | rfl) ?_
  intro p e s m below meth c T0 X0 K e0
  have N0 := Fr.nil n0
  have KK0 := Keep.refl h0 [a]
  obtain ⟨Ea, Fa_key0, Fa_key1, Fa_v0, Fa_v1, Fa_v2, Fa_v3⟩ := S
  refine o_aloadN X0 K d5_0 1 rfl rfl rfl ?_
  refine o_aloadN X0 K d5_1 2 rfl rfl rfl ?_
  refine o_getfield X0 K (host := "") d5_2 5 rfl (Or.inl (w_19 hw)) Via.refl e0 Fa_key0 ?_
  intro T_154 X_154 e_154
  refine o_ldc2J X_154 K d5_5 8 rfl (w_28 hw) ?_
  refine o_lxor X_154 K d5_8 9 rfl ?_
  refine o_putfield X_154 K (host := "") (ty := .long) d5_9 12 rfl (Or.inl (w_29 hw)) Via.refl e_154 Fa_v0 Ea (Or.inl (w_30 hw)) (w_9 hw) (by decide) rfl rfl N0 g_a ?_
  intro T_155 h_155 locs_155 X_155 e_155 W_155 N_155
  have Z_155 : n0 ≤ h_155.size := by rw [Wr.size W_155]; exact Z0
  have K_155 := KK0.wr W_155 (Or.inl (by simp))
  have f_156 := A_ar.other W_155 ne_ar_a
  have f_157 := Exa.wr W_155 Ea
  have f_158 := Fld.other W_155 Fa_key0 (Or.inr (slot_ne (Or.inr (w_20 hw)) (Or.inl (w_30 hw)) (by decide) (t := .long) (t' := .long) (by decide) (by decide)))
  have f_159 := Fld.other W_155 Fa_key1 (Or.inr (slot_ne (Or.inr (w_22 hw)) (Or.inl (w_30 hw)) (by decide) (t := .long) (t' := .long) (by decide) (by decide)))
  have f_160 := Fld.same W_155 Fa_v0
  have f_161 := Fld.other W_155 Fa_v1 (Or.inr (slot_ne (Or.inl (w_33 hw)) (Or.inl (w_30 hw)) (by decide) (t := .long) (t' := .long) (by decide) (by decide)))
  have f_162 := Fld.other W_155 Fa_v2 (Or.inr (slot_ne (Or.inl (w_36 hw)) (Or.inl (w_30 hw)) (by decide) (t := .long) (t' := .long) (by decide) (by decide)))
  have f_163 := Fld.other W_155 Fa_v3 (Or.inr (slot_ne (Or.inl (w_39 hw)) (Or.inl (w_30 hw)) (by decide) (t := .long) (t' := .long) (by decide) (by decide)))
  refine o_aloadN X_155 K d5_12 13 rfl rfl rfl ?_
  refine o_aloadN X_155 K d5_13 14 rfl rfl rfl ?_
  refine o_getfield X_155 K (host := "") d5_14 17 rfl (Or.inl (w_21 hw)) Via.refl e_155 f_159 ?_
  intro T_164 X_164 e_164
  refine o_ldc2J X_164 K d5_17 20 rfl (w_31 hw) ?_
  refine o_lxor X_164 K d5_20 21 rfl ?_
  refine o_putfield X_164 K (host := "") (ty := .long) d5_21 24 rfl (Or.inl (w_32 hw)) Via.refl e_164 f_161 f_157 (Or.inl (w_33 hw)) (w_9 hw) (by decide) rfl rfl N_155 g_a ?_
  intro T_165 h_165 locs_165 X_165 e_165 W_165 N_165
  have Z_165 : n0 ≤ h_165.size := by rw [Wr.size W_165]; exact Z_155
  have K_165 := K_155.wr W_165 (Or.inl (by simp))
  have f_166 := f_156.other W_165 ne_ar_a
  have f_167 := Exa.wr W_165 f_157
  have f_168 := Fld.other W_165 f_158 (Or.inr (slot_ne (Or.inr (w_20 hw)) (Or.inl (w_33 hw)) (by decide) (t := .long) (t' := .long) (by decide) (by decide)))
  have f_169 := Fld.other W_165 f_159 (Or.inr (slot_ne (Or.inr (w_22 hw)) (Or.inl (w_33 hw)) (by decide) (t := .long) (t' := .long) (by decide) (by decide)))
  have f_170 := Fld.other W_165 f_160 (Or.inr (slot_ne (Or.inl (w_30 hw)) (Or.inl (w_33 hw)) (by decide) (t := .long) (t' := .long) (by decide) (by decide)))
  have f_171 := Fld.same W_165 f_161
  have f_172 := Fld.other W_165 f_162 (Or.inr (slot_ne (Or.inl (w_36 hw)) (Or.inl (w_33 hw)) (by decide) (t := .long) (t' := .long) (by decide) (by decide)))
  have f_173 := Fld.other W_165 f_163 (Or.inr (slot_ne (Or.inl (w_39 hw)) (Or.inl (w_33 hw)) (by decide) (t := .long) (t' := .long) (by decide) (by decide)))
  refine o_aloadN X_165 K d5_24 25 rfl rfl rfl ?_
  refine o_aloadN X_165 K d5_25 26 rfl rfl rfl ?_
  refine o_getfield X_165 K (host := "") d5_26 29 rfl (Or.inl (w_19 hw)) Via.refl e_165 f_168 ?_
  intro T_174 X_174 e_174
  refine o_ldc2J X_174 K d5_29 32 rfl (w_34 hw) ?_
  refine o_lxor X_174 K d5_32 33 rfl ?_
  refine o_putfield X_174 K (host := "") (ty := .long) d5_33 36 rfl (Or.inl (w_35 hw)) Via.refl e_174 f_172 f_167 (Or.inl (w_36 hw)) (w_9 hw) (by decide) rfl rfl N_165 g_a ?_
  intro T_175 h_175 locs_175 X_175 e_175 W_175 N_175
  have Z_175 : n0 ≤ h_175.size := by rw [Wr.size W_175]; exact Z_165
  have K_175 := K_165.wr W_175 (Or.inl (by simp))
  have f_176 := f_166.other W_175 ne_ar_a
  have f_177 := Exa.wr W_175 f_167
  have f_178 := Fld.other W_175 f_168 (Or.inr (slot_ne (Or.inr (w_20 hw)) (Or.inl (w_36 hw)) (by decide) (t := .long) (t' := .long) (by decide) (by decide)))
  have f_179 := Fld.other W_175 f_169 (Or.inr (slot_ne (Or.inr (w_22 hw)) (Or.inl (w_36 hw)) (by decide) (t := .long) (t' := .long) (by decide) (by decide)))
  have f_180 := Fld.other W_175 f_170 (Or.inr (slot_ne (Or.inl (w_30 hw)) (Or.inl (w_36 hw)) (by decide) (t := .long) (t' := .long) (by decide) (by decide)))
  have f_181 := Fld.other W_175 f_171 (Or.inr (slot_ne (Or.inl (w_33 hw)) (Or.inl (w_36 hw)) (by decide) (t := .long) (t' := .long) (by decide) (by decide)))
  have f_182 := Fld.same W_175 f_172
  have f_183 := Fld.other W_175 f_173 (Or.inr (slot_ne (Or.inl (w_39 hw)) (Or.inl (w_36 hw)) (by decide) (t := .long) (t' := .long) (by decide) (by decide)))
  refine o_aloadN X_175 K d5_36 37 rfl rfl rfl ?_
  refine o_aloadN X_175 K d5_37 38 rfl rfl rfl ?_
  refine o_getfield X_175 K (host := "") d5_38 41 rfl (Or.inl (w_21 hw)) Via.refl e_175 f_179 ?_
  intro T_184 X_184 e_184
  refine o_ldc2J X_184 K d5_41 44 rfl (w_37 hw) ?_
  refine o_lxor X_184 K d5_44 45 rfl ?_
  refine o_putfield X_184 K (host := "") (ty := .long) d5_45 48 rfl (Or.inl (w_38 hw)) Via.refl e_184 f_183 f_177 (Or.inl (w_39 hw)) (w_9 hw) (by decide) rfl rfl N_175 g_a ?_
  intro T_185 h_185 locs_185 X_185 e_185 W_185 N_185
  have Z_185 : n0 ≤ h_185.size := by rw [Wr.size W_185]; exact Z_175
  have K_185 := K_175.wr W_185 (Or.inl (by simp))
  have f_186 := f_176.other W_185 ne_ar_a
  have f_187 := Exa.wr W_185 f_177
  have f_188 := Fld.other W_185 f_178 (Or.inr (slot_ne (Or.inr (w_20 hw)) (Or.inl (w_39 hw)) (by decide) (t := .long) (t' := .long) (by decide) (by decide)))
  have f_189 := Fld.other W_185 f_179 (Or.inr (slot_ne (Or.inr (w_22 hw)) (Or.inl (w_39 hw)) (by decide) (t := .long) (t' := .long) (by decide) (by decide)))
  have f_190 := Fld.other W_185 f_180 (Or.inr (slot_ne (Or.inl (w_30 hw)) (Or.inl (w_39 hw)) (by decide) (t := .long) (t' := .long) (by decide) (by decide)))
  have f_191 := Fld.other W_185 f_181 (Or.inr (slot_ne (Or.inl (w_33 hw)) (Or.inl (w_39 hw)) (by decide) (t := .long) (t' := .long) (by decide) (by decide)))
  have f_192 := Fld.other W_185 f_182 (Or.inr (slot_ne (Or.inl (w_36 hw)) (Or.inl (w_39 hw)) (by decide) (t := .long) (t' := .long) (by decide) (by decide)))
  have f_193 := Fld.same W_185 f_183
  refine o_iloadN X_185 K d5_48 49 rfl rfl ?_
  refine o_iloadN X_185 K d5_49 50 rfl rfl ?_
  refine o_isub X_185 K d5_50 51 rfl ?_
  rw [hl.2.2.2.2.2]
  refine o_istore X_185 K d5_51 53 rfl #[.val (.ref a), .val (.ref ar), .val (.int fr), .val (.int to), .val (.int ln), .unset, .unset] rfl rfl ?_
  refine o_iloadN X_185 K d5_53 54 rfl rfl ?_
  refine o_iload X_185 K d5_54 56 rfl rfl ?_
  refine o_bipush X_185 K (7 : Int32) d5_56 58 rfl rfl ?_
  refine o_iand X_185 K d5_58 59 rfl ?_
  refine o_isub X_185 K d5_59 60 rfl ?_
  obtain ⟨en, h_en⟩ : ∃ z_ : Int32, z_ = (to - (ln &&& (7 : Int32))) := ⟨_, rfl⟩
  refine o_istore X_185 K d5_60 62 rfl #[.val (.ref a), .val (.ref ar), .val (.int fr), .val (.int to), .val (.int ln), .val (.int en), .unset] h_en.symm rfl ?_
  refine o_iloadN X_185 K d5_62 63 rfl rfl ?_
  refine o_istore X_185 K d5_63 65 rfl #[.val (.ref a), .val (.ref ar), .val (.int fr), .val (.int to), .val (.int ln), .val (.int en), .val (.int fr)] rfl rfl ?_
  have l8 : (8 : Int32).toInt = 8 := rfl
  have hen : en.toInt = to.toInt - ln.toInt % 8 := by rw [h_en]; have q0 : (ln &&& 7).toInt = ln.toInt % 8 := c_mask ln 7 3 (by decide) (by decide); have q1 := c_isub to (ln &&& 7); have q2 := rng32 (to - (ln &&& 7)); omega
  refine o_ind (fun (t : State × Heap × List Loc × Int32 × OSt) => t.1.setTop (mkF m 65 #[.val (.ref a), .val (.ref ar), .val (.int fr), .val (.int to), .val (.int ln), .val (.int en), .val (.int t.2.2.2.1)] [])) (fun d t => Stand p l e ({ frames := 3, cells := 0, slots := 0, locals := 49 } : Room) s m #[(.ref a), (.ref ar), (.int fr), (.int to)] below meth c t.1 t.2.2.1 0 0 ∧ t.1.heap = t.2.1 ∧ Fr n0 t.2.2.1 ∧ Keep h0 t.2.1 [a] ∧ own_S Z t.2.1 a k0 k1 t.2.2.2.2 ∧ OAr Z t.2.1 ar .byte nn (fun j => .int (g j)) ∧ fr.toInt ≤ t.2.2.2.1.toInt ∧ t.2.2.2.1.toInt + 8 * d = en.toInt ∧ own_blocks g d t.2.2.2.1.toInt.toNat t.2.2.2.2 = own_blocks g (ln.toInt.toNat / 8) fr.toInt.toNat (own_init k0 k1)) ?_ ?_ (ln.toInt.toNat / 8) (T_185, h_185, _, fr, own_init k0 k1) ⟨X_185, e_185, N_185, K_185, ⟨f_187, f_188, f_189, f_190, f_191, f_192, f_193⟩, f_186, Int.le_refl _, by show fr.toInt + _ = _; omega, rfl⟩
  · rintro ⟨T1, h1, locs1, i1, t1⟩ ⟨X1, e1, N1, K1, S1, A1, hi0, hi1, hR⟩
    dsimp only at X1 e1 N1 K1 S1 A1 hi0 hi1 hR
    show OGo p e below s n0 _ _ _ (T1.setTop (mkF m 65 #[.val (.ref a), .val (.ref ar), .val (.int fr), .val (.int to), .val (.int ln), .val (.int en), .val (.int i1)] []))
    have Z1 : n0 ≤ h1.size := Nat.le_trans Z0 K1.1
    obtain ⟨E1, F1_key0, F1_key1, F1_v0, F1_v1, F1_v2, F1_v3⟩ := id S1
    refine o_iload X1 K d5_65 67 rfl rfl ?_
    refine o_iload X1 K d5_67 69 rfl rfl ?_
    refine o_icmp_ge_t X1 K d5_69 93 (by decide) (by decide) (by omega) ?_
    refine o_aloadN X1 K d5_93 94 rfl rfl rfl ?_
    refine o_aloadN X1 K d5_94 95 rfl rfl rfl ?_
    refine o_iload X1 K d5_95 97 rfl rfl ?_
    refine o_iloadN X1 K d5_97 98 rfl rfl ?_
    refine o_invokestatic X1 K d5_98 101 rfl (w_40 hw) (w_41 hw) (w_10 hw) (w_42 hw) (by decide) [(.ref ar), (.int en), (.int to)] [(.ref a)] rfl  (c_le l Z a0 hw n0 ar g nn en to h1 Z1 A1 (by omega)) e1 rfl (lenOf pd___BII_J rfl) (by decide) 1 (Nat.le_of_eq rfl) (by decide) (by decide) (by decide) N1 ?_
    rintro _ T_194 h_194 locs_194 X_194 q_194 ⟨rfl, r_194⟩ N_194
    have e_194 := q_194.trans r_194
    show OGo p e below s n0 _ _ _ (T_194.setTop (mkF m 101 #[.val (.ref a), .val (.ref ar), .val (.int fr), .val (.int to), .val (.int ln), .val (.int en), .val (.int i1)] [(.long (own_le g en.toInt.toNat (to.toInt - en.toInt).toNat)), (.ref a)]))
    rw [show en.toInt.toNat = fr.toInt.toNat + ln.toInt.toNat / 8 * 8 from by omega, show (to.toInt - en.toInt).toNat = ln.toInt.toNat % 8 from by omega]
    refine o_iload X_194 K d5_101 103 rfl rfl ?_
    refine o_i2l X_194 K d5_103 104 rfl ?_
    refine o_bipush X_194 K (56 : Int32) d5_104 106 rfl rfl ?_
    refine o_lshl X_194 K d5_106 107 rfl ?_
    refine o_lor X_194 K d5_107 108 rfl ?_
    refine o_invokeprivate X_194 K d5_108 111 rfl (w_43 hw) (w_44 hw) (w_45 hw) (w_10 hw) (w_46 hw) (by decide) ⟨6, (w_9 hw)⟩ E1 [(.long ((own_le g (fr.toInt.toNat + ln.toInt.toNat / 8 * 8) (ln.toInt.toNat % 8)) ||| ((ln.toInt64) <<< ((56 : Int32) &&& 0x3f).toInt64)))] [] rfl  (c_absorb l Z a0 hw n0 a k0 k1 t1 ((own_le g (fr.toInt.toNat + ln.toInt.toNat / 8 * 8) (ln.toInt.toNat % 8)) ||| ((ln.toInt64) <<< ((56 : Int32) &&& 0x3f).toInt64)) h1 Z1 ⟨E1, F1_key0, F1_key1, F1_v0, F1_v1, F1_v2, F1_v3⟩ g_a) e_194 rfl (lenOf pd__J_V rfl) (by decide) 0 (Nat.le_of_eq rfl) (by decide) (by decide) (by decide) N_194 ?_
    rintro _ T_195 h_195 locs_195 X_195 e_195 ⟨rfl, k_195, S_195⟩ N_195
    have Z_195 : n0 ≤ h_195.size := Nat.le_trans Z1 k_195.1
    have K_195 := K1.trans k_195 (allS (Or.inl (by simp)) (all0))
    have f_196 := A1.keep k_195 (ninS ne_ar_a (nin0))
    have f_197 := Exa.keep E1 k_195
    obtain ⟨Eo_195, Fo_195_key0, Fo_195_key1, Fo_195_v0, Fo_195_v1, Fo_195_v2, Fo_195_v3⟩ := S_195
    show OGo p e below s n0 _ _ _ (T_195.setTop (mkF m 111 #[.val (.ref a), .val (.ref ar), .val (.int fr), .val (.int to), .val (.int ln), .val (.int en), .val (.int i1)] []))
    refine o_aloadN X_195 K d5_111 112 rfl rfl rfl ?_
    refine o_dup X_195 K d5_112 113 rfl rfl ?_
    refine o_getfield X_195 K (host := "") d5_113 116 rfl (Or.inl (w_35 hw)) Via.refl e_195 Fo_195_v2 ?_
    intro T_198 X_198 e_198
    refine o_ldc2J X_198 K d5_116 119 rfl (w_55 hw) ?_
    refine o_lxor X_198 K d5_119 120 rfl ?_
    refine o_putfield X_198 K (host := "") (ty := .long) d5_120 123 rfl (Or.inl (w_35 hw)) Via.refl e_198 Fo_195_v2 Eo_195 (Or.inl (w_36 hw)) (w_9 hw) (by decide) rfl rfl N_195 g_a ?_
    intro T_199 h_199 locs_199 X_199 e_199 W_199 N_199
    have Z_199 : n0 ≤ h_199.size := by rw [Wr.size W_199]; exact Z_195
    have K_199 := K_195.wr W_199 (Or.inl (by simp))
    have f_200 := f_196.other W_199 ne_ar_a
    have f_201 := Exa.wr W_199 Eo_195
    have f_202 := Fld.other W_199 Fo_195_key0 (Or.inr (slot_ne (Or.inr (w_20 hw)) (Or.inl (w_36 hw)) (by decide) (t := .long) (t' := .long) (by decide) (by decide)))
    have f_203 := Fld.other W_199 Fo_195_key1 (Or.inr (slot_ne (Or.inr (w_22 hw)) (Or.inl (w_36 hw)) (by decide) (t := .long) (t' := .long) (by decide) (by decide)))
    have f_204 := Fld.other W_199 Fo_195_v0 (Or.inr (slot_ne (Or.inl (w_30 hw)) (Or.inl (w_36 hw)) (by decide) (t := .long) (t' := .long) (by decide) (by decide)))
    have f_205 := Fld.other W_199 Fo_195_v1 (Or.inr (slot_ne (Or.inl (w_33 hw)) (Or.inl (w_36 hw)) (by decide) (t := .long) (t' := .long) (by decide) (by decide)))
    have f_206 := Fld.same W_199 Fo_195_v2
    have f_207 := Fld.other W_199 Fo_195_v3 (Or.inr (slot_ne (Or.inl (w_39 hw)) (Or.inl (w_36 hw)) (by decide) (t := .long) (t' := .long) (by decide) (by decide)))
    refine o_aloadN X_199 K d5_123 124 rfl rfl rfl ?_
    refine o_iconst X_199 K (4 : Int32) d5_124 125 rfl rfl ?_
    refine o_invokeprivate X_199 K d5_125 128 rfl (w_47 hw) (w_48 hw) (w_49 hw) (w_10 hw) (w_50 hw) (by decide) ⟨6, (w_9 hw)⟩ f_201 [(.int (4 : Int32))] [] rfl  (c_rounds l Z a0 hw n0 a k0 k1 ((own_absorb t1 ((own_le g (fr.toInt.toNat + ln.toInt.toNat / 8 * 8) (ln.toInt.toNat % 8)) ||| ((ln.toInt64) <<< ((56 : Int32) &&& 0x3f).toInt64))).1, (own_absorb t1 ((own_le g (fr.toInt.toNat + ln.toInt.toNat / 8 * 8) (ln.toInt.toNat % 8)) ||| ((ln.toInt64) <<< ((56 : Int32) &&& 0x3f).toInt64))).2.1, (own_absorb t1 ((own_le g (fr.toInt.toNat + ln.toInt.toNat / 8 * 8) (ln.toInt.toNat % 8)) ||| ((ln.toInt64) <<< ((56 : Int32) &&& 0x3f).toInt64))).2.2.1 ^^^ 255, (own_absorb t1 ((own_le g (fr.toInt.toNat + ln.toInt.toNat / 8 * 8) (ln.toInt.toNat % 8)) ||| ((ln.toInt64) <<< ((56 : Int32) &&& 0x3f).toInt64))).2.2.2) 4 4 h_199 Z_199 ⟨f_201, f_202, f_203, f_204, f_205, f_206, f_207⟩ g_a (by decide)) e_199 rfl (lenOf pd__I_V rfl) (by decide) 0 (Nat.le_of_eq rfl) (by decide) (by decide) (by decide) N_199 ?_
    rintro _ T_208 h_208 locs_208 X_208 e_208 ⟨rfl, k_208, S_208⟩ N_208
    have Z_208 : n0 ≤ h_208.size := Nat.le_trans Z_199 k_208.1
    have K_208 := K_199.trans k_208 (allS (Or.inl (by simp)) (all0))
    have f_209 := f_200.keep k_208 (ninS ne_ar_a (nin0))
    have f_210 := Exa.keep f_201 k_208
    obtain ⟨Eo_208, Fo_208_key0, Fo_208_key1, Fo_208_v0, Fo_208_v1, Fo_208_v2, Fo_208_v3⟩ := S_208
    show OGo p e below s n0 _ _ _ (T_208.setTop (mkF m 128 #[.val (.ref a), .val (.ref ar), .val (.int fr), .val (.int to), .val (.int ln), .val (.int en), .val (.int i1)] []))
    refine o_aloadN X_208 K d5_128 129 rfl rfl rfl ?_
    refine o_getfield X_208 K (host := "") d5_129 132 rfl (Or.inl (w_29 hw)) Via.refl e_208 Fo_208_v0 ?_
    intro T_211 X_211 e_211
    refine o_aloadN X_211 K d5_132 133 rfl rfl rfl ?_
    refine o_getfield X_211 K (host := "") d5_133 136 rfl (Or.inl (w_32 hw)) Via.refl e_211 Fo_208_v1 ?_
    intro T_212 X_212 e_212
    refine o_lxor X_212 K d5_136 137 rfl ?_
    refine o_aloadN X_212 K d5_137 138 rfl rfl rfl ?_
    refine o_getfield X_212 K (host := "") d5_138 141 rfl (Or.inl (w_35 hw)) Via.refl e_212 Fo_208_v2 ?_
    intro T_213 X_213 e_213
    refine o_lxor X_213 K d5_141 142 rfl ?_
    refine o_aloadN X_213 K d5_142 143 rfl rfl rfl ?_
    refine o_getfield X_213 K (host := "") d5_143 146 rfl (Or.inl (w_38 hw)) Via.refl e_213 Fo_208_v3 ?_
    intro T_214 X_214 e_214
    refine o_lxor X_214 K d5_146 147 rfl ?_
    refine o_lreturn X_214 K d5_147 (by decide) (by decide) N_208 ?_
    rw [e_214]
    refine ⟨?_, K_208, _, (⟨Eo_208, Fo_208_key0, Fo_208_key1, Fo_208_v0, Fo_208_v1, Fo_208_v2, Fo_208_v3⟩ : own_S Z h_208 a k0 k1 (own_rounds 4 ((own_absorb t1 ((own_le g (fr.toInt.toNat + ln.toInt.toNat / 8 * 8) (ln.toInt.toNat % 8)) ||| ((ln.toInt64) <<< ((56 : Int32) &&& 0x3f).toInt64))).1, (own_absorb t1 ((own_le g (fr.toInt.toNat + ln.toInt.toNat / 8 * 8) (ln.toInt.toNat % 8)) ||| ((ln.toInt64) <<< ((56 : Int32) &&& 0x3f).toInt64))).2.1, (own_absorb t1 ((own_le g (fr.toInt.toNat + ln.toInt.toNat / 8 * 8) (ln.toInt.toNat % 8)) ||| ((ln.toInt64) <<< ((56 : Int32) &&& 0x3f).toInt64))).2.2.1 ^^^ 255, (own_absorb t1 ((own_le g (fr.toInt.toNat + ln.toInt.toNat / 8 * 8) (ln.toInt.toNat % 8)) ||| ((ln.toInt64) <<< ((56 : Int32) &&& 0x3f).toInt64))).2.2.2)))⟩
    rw [own_hash, ← hR]
    rfl
  · rintro d ih ⟨T1, h1, locs1, i1, t1⟩ ⟨X1, e1, N1, K1, S1, A1, hi0, hi1, hR⟩
    dsimp only at X1 e1 N1 K1 S1 A1 hi0 hi1 hR
    show OGo p e below s n0 _ _ _ (T1.setTop (mkF m 65 #[.val (.ref a), .val (.ref ar), .val (.int fr), .val (.int to), .val (.int ln), .val (.int en), .val (.int i1)] []))
    have Z1 : n0 ≤ h1.size := Nat.le_trans Z0 K1.1
    obtain ⟨E1, F1_key0, F1_key1, F1_v0, F1_v1, F1_v2, F1_v3⟩ := id S1
    refine o_iload X1 K d5_65 67 rfl rfl ?_
    refine o_iload X1 K d5_67 69 rfl rfl ?_
    refine o_icmp_ge_f X1 K d5_69 72 rfl (by omega) ?_
    have h18 : (i1 + (8 : Int32)).toInt = i1.toInt + 8 := by have q1 := c_iadd i1 8; have q2 := rng32 (i1 + 8); omega
    refine o_aloadN X1 K d5_72 73 rfl rfl rfl ?_
    refine o_aloadN X1 K d5_73 74 rfl rfl rfl ?_
    refine o_iload X1 K d5_74 76 rfl rfl ?_
    refine o_iload X1 K d5_76 78 rfl rfl ?_
    refine o_bipush X1 K (8 : Int32) d5_78 80 rfl rfl ?_
    refine o_iadd X1 K d5_80 81 rfl ?_
    refine o_invokestatic X1 K d5_81 84 rfl (w_40 hw) (w_41 hw) (w_10 hw) (w_42 hw) (by decide) [(.ref ar), (.int i1), (.int (i1 + (8 : Int32)))] [(.ref a)] rfl  (c_le l Z a0 hw n0 ar g nn i1 (i1 + (8 : Int32)) h1 Z1 A1 (by omega)) e1 rfl (lenOf pd___BII_J rfl) (by decide) 1 (Nat.le_of_eq rfl) (by decide) (by decide) (by decide) N1 ?_
    rintro _ T_215 h_215 locs_215 X_215 q_215 ⟨rfl, r_215⟩ N_215
    have e_215 := q_215.trans r_215
    show OGo p e below s n0 _ _ _ (T_215.setTop (mkF m 84 #[.val (.ref a), .val (.ref ar), .val (.int fr), .val (.int to), .val (.int ln), .val (.int en), .val (.int i1)] [(.long (own_le g i1.toInt.toNat ((i1 + (8 : Int32)).toInt - i1.toInt).toNat)), (.ref a)]))
    rw [show ((i1 + (8 : Int32)).toInt - i1.toInt).toNat = 8 from by omega]
    refine o_invokeprivate X_215 K d5_84 87 rfl (w_43 hw) (w_44 hw) (w_45 hw) (w_10 hw) (w_46 hw) (by decide) ⟨6, (w_9 hw)⟩ E1 [(.long (own_le g i1.toInt.toNat 8))] [] rfl  (c_absorb l Z a0 hw n0 a k0 k1 t1 (own_le g i1.toInt.toNat 8) h1 Z1 ⟨E1, F1_key0, F1_key1, F1_v0, F1_v1, F1_v2, F1_v3⟩ g_a) e_215 rfl (lenOf pd__J_V rfl) (by decide) 0 (Nat.le_of_eq rfl) (by decide) (by decide) (by decide) N_215 ?_
    rintro _ T_216 h_216 locs_216 X_216 e_216 ⟨rfl, k_216, S_216⟩ N_216
    have Z_216 : n0 ≤ h_216.size := Nat.le_trans Z1 k_216.1
    have K_216 := K1.trans k_216 (allS (Or.inl (by simp)) (all0))
    have f_217 := A1.keep k_216 (ninS ne_ar_a (nin0))
    have f_218 := Exa.keep E1 k_216
    obtain ⟨Eo_216, Fo_216_key0, Fo_216_key1, Fo_216_v0, Fo_216_v1, Fo_216_v2, Fo_216_v3⟩ := S_216
    show OGo p e below s n0 _ _ _ (T_216.setTop (mkF m 87 #[.val (.ref a), .val (.ref ar), .val (.int fr), .val (.int to), .val (.int ln), .val (.int en), .val (.int i1)] []))
    obtain ⟨i2, h_i2⟩ : ∃ z_ : Int32, z_ = (i1 + (8 : Int32)) := ⟨_, rfl⟩
    refine o_iinc X_216 K d5_87 90 rfl #[.val (.ref a), .val (.ref ar), .val (.int fr), .val (.int to), .val (.int ln), .val (.int en), .val (.int i2)] rfl h_i2.symm rfl ?_
    refine o_goto X_216 K d5_90 65 (by decide) (by decide) ?_
    have hi2 : i2.toInt = i1.toInt + 8 := by rw [h_i2]; exact h18
    refine ih (T_216, h_216, _, i2, (own_absorb t1 (own_le g i1.toInt.toNat 8))) ⟨X_216, e_216, N_216, K_216, ⟨Eo_216, Fo_216_key0, Fo_216_key1, Fo_216_v0, Fo_216_v1, Fo_216_v2, Fo_216_v3⟩, f_217, by show fr.toInt ≤ i2.toInt; omega, by show i2.toInt + 8 * (d : Int) = _; omega, ?_⟩
    rw [← hR]
    show own_blocks g d i2.toInt.toNat _ = own_blocks g d (i1.toInt.toNat + 8) _
    rw [show i2.toInt.toNat = i1.toInt.toNat + 8 from by omega]
theorem own_same (p0 p1 p2 p3 p4 : Int64) (of1 of2 len : Int32) (ho1 : 0 ≤ of1.toInt ∧ of1.toInt ≤ 7) (ho2 : 0 ≤ of2.toInt ∧ of2.toInt ≤ 7) (hln : 0 ≤ len.toInt ∧ len.toInt ≤ 16) : own_hash p0 p1 (fun j => own_data p2 p3 p4 (Int32.ofNat j)) of1.toInt.toNat len = own_hash p0 p1 (fun j => own_bv p2 p3 p4 (Int32.ofNat j) of1 of2 len) of2.toInt.toNat len := by
  refine own_hash_congr _ _ _ _ _ _ _ fun u hu => ?_
  have hn : ∀ k : Nat, k < 2147483648 → (Int32.ofNat k).toInt = k := fun k hk => Int32.toInt_ofNat_small (by omega)
  have q1 := hn (of2.toInt.toNat + u) (by omega)
  have q2 := hn (of1.toInt.toNat + u) (by omega)
  rw [own_bv, if_pos (by omega)]
  congr 1
  rw [← Int32.toInt_inj]
  have q3 := c_isub (Int32.ofNat (of2.toInt.toNat + u)) of2
  have q4 := rng32 (Int32.ofNat (of2.toInt.toNat + u) - of2)
  have q5 := c_iadd (Int32.ofNat (of2.toInt.toNat + u) - of2) of1
  have q6 := rng32 (Int32.ofNat (of2.toInt.toNat + u) - of2 + of1)
  omega
theorem pd___B_BIJJJIII_V : parseMethodDescriptor "([B[BIJJJIII)V" = some ⟨[(.array .byte), (.array .byte), .int, .long, .long, .long, .int, .int, .int], none⟩ := by decide +kernel
theorem pd__JJ_V : parseMethodDescriptor "(JJ)V" = some ⟨[.long, .long], none⟩ := by decide +kernel
theorem pn_0 : plainFor x = true := plainFor_of_name (by first | (simp [plainName, overriddenIn, x]; done) | decide +kernel)
set_option maxHeartbeats 4000000 in
theorem rm0 (l : Launch) (Z : State) (a0 : Array Value) (hw : OW Z a0) (n0 : Nat) (p0 p1 p2 p3 p4 : Int64) (p5 : Int32) (h0 : Heap) (Z0 : n0 ≤ h0.size) :
    OCon l Z n0 x code maxLocals ret room_1 #[(.long p0), (.long p1), (.long p2), (.long p3), (.long p4), (.int p5)] h0 (fun v _ => v = some (.int 1)) := by
  refine OCon.of (Ls := #[.val (.long p0), .second, .val (.long p1), .second, .val (.long p2), .second, .val (.long p3), .second, .val (.long p4), .second, .val (.int p5), .unset, .unset, .unset, .unset, .unset, .unset, .unset, .unset, .unset, .unset, .unset, .unset, .unset, .unset, .unset, .unset, .unset]) pn_0 rfl rfl (fun m => by first | (simp [entryFrame, mkF, argsToLocals, Value.category, maxLocals]; done) | rfl) ?_
  intro p e s m below meth c T0 X0 K e0
  have N0 := Fr.nil n0
  refine o_bipush X0 K (15 : Int32) at_0 2 rfl rfl ?_
  refine o_newarray X0 K (n := 15) at_2 4 rfl (w_0 hw) e0 (by decide) 15 (by decide) (by decide) (by decide) (by decide) rfl ?_
  intro T_219 h_219 mm g_219 X_219 e_219 E_219 A_219
  dsimp only [newarray.typeOf, defaultValue] at A_219
  have Z_219 : n0 ≤ h_219.size := Nat.le_trans Z0 E_219.1
  have g_mm : n0 ≤ mm := by rw [g_219]; exact Z0
  refine o_dup X_219 K at_4 5 rfl rfl ?_
  refine o_iconst X_219 K (0 : Int32) at_5 6 rfl rfl ?_
  refine o_iconst X_219 K (0 : Int32) at_6 7 rfl rfl ?_
  refine o_bastore X_219 K (i := 0) (x' := (0 : Int32)) at_7 8 rfl e_219 A_219 (by decide) (by decide) (by decide) N0 g_mm ?_
  intro T_220 h_220 locs_220 X_220 e_220 W_220 A_220 N_220
  have Z_220 : n0 ≤ h_220.size := by rw [Wr.size W_220]; exact Z_219
  refine o_dup X_220 K at_8 9 rfl rfl ?_
  refine o_iconst X_220 K (1 : Int32) at_9 10 rfl rfl ?_
  refine o_iconst X_220 K (1 : Int32) at_10 11 rfl rfl ?_
  refine o_bastore X_220 K (i := 1) (x' := (1 : Int32)) at_11 12 rfl e_220 A_220 (by decide) (by decide) (by decide) N_220 g_mm ?_
  intro T_221 h_221 locs_221 X_221 e_221 W_221 A_221 N_221
  have Z_221 : n0 ≤ h_221.size := by rw [Wr.size W_221]; exact Z_220
  refine o_dup X_221 K at_12 13 rfl rfl ?_
  refine o_iconst X_221 K (2 : Int32) at_13 14 rfl rfl ?_
  refine o_iconst X_221 K (2 : Int32) at_14 15 rfl rfl ?_
  refine o_bastore X_221 K (i := 2) (x' := (2 : Int32)) at_15 16 rfl e_221 A_221 (by decide) (by decide) (by decide) N_221 g_mm ?_
  intro T_222 h_222 locs_222 X_222 e_222 W_222 A_222 N_222
  have Z_222 : n0 ≤ h_222.size := by rw [Wr.size W_222]; exact Z_221
  refine o_dup X_222 K at_16 17 rfl rfl ?_
  refine o_iconst X_222 K (3 : Int32) at_17 18 rfl rfl ?_
  refine o_iconst X_222 K (3 : Int32) at_18 19 rfl rfl ?_
  refine o_bastore X_222 K (i := 3) (x' := (3 : Int32)) at_19 20 rfl e_222 A_222 (by decide) (by decide) (by decide) N_222 g_mm ?_
  intro T_223 h_223 locs_223 X_223 e_223 W_223 A_223 N_223
  have Z_223 : n0 ≤ h_223.size := by rw [Wr.size W_223]; exact Z_222
  refine o_dup X_223 K at_20 21 rfl rfl ?_
  refine o_iconst X_223 K (4 : Int32) at_21 22 rfl rfl ?_
  refine o_iconst X_223 K (4 : Int32) at_22 23 rfl rfl ?_
  refine o_bastore X_223 K (i := 4) (x' := (4 : Int32)) at_23 24 rfl e_223 A_223 (by decide) (by decide) (by decide) N_223 g_mm ?_
  intro T_224 h_224 locs_224 X_224 e_224 W_224 A_224 N_224
  have Z_224 : n0 ≤ h_224.size := by rw [Wr.size W_224]; exact Z_223
  refine o_dup X_224 K at_24 25 rfl rfl ?_
  refine o_iconst X_224 K (5 : Int32) at_25 26 rfl rfl ?_
  refine o_iconst X_224 K (5 : Int32) at_26 27 rfl rfl ?_
  refine o_bastore X_224 K (i := 5) (x' := (5 : Int32)) at_27 28 rfl e_224 A_224 (by decide) (by decide) (by decide) N_224 g_mm ?_
  intro T_225 h_225 locs_225 X_225 e_225 W_225 A_225 N_225
  have Z_225 : n0 ≤ h_225.size := by rw [Wr.size W_225]; exact Z_224
  refine o_dup X_225 K at_28 29 rfl rfl ?_
  refine o_bipush X_225 K (6 : Int32) at_29 31 rfl rfl ?_
  refine o_bipush X_225 K (6 : Int32) at_31 33 rfl rfl ?_
  refine o_bastore X_225 K (i := 6) (x' := (6 : Int32)) at_33 34 rfl e_225 A_225 (by decide) (by decide) (by decide) N_225 g_mm ?_
  intro T_226 h_226 locs_226 X_226 e_226 W_226 A_226 N_226
  have Z_226 : n0 ≤ h_226.size := by rw [Wr.size W_226]; exact Z_225
  refine o_dup X_226 K at_34 35 rfl rfl ?_
  refine o_bipush X_226 K (7 : Int32) at_35 37 rfl rfl ?_
  refine o_bipush X_226 K (7 : Int32) at_37 39 rfl rfl ?_
  refine o_bastore X_226 K (i := 7) (x' := (7 : Int32)) at_39 40 rfl e_226 A_226 (by decide) (by decide) (by decide) N_226 g_mm ?_
  intro T_227 h_227 locs_227 X_227 e_227 W_227 A_227 N_227
  have Z_227 : n0 ≤ h_227.size := by rw [Wr.size W_227]; exact Z_226
  refine o_dup X_227 K at_40 41 rfl rfl ?_
  refine o_bipush X_227 K (8 : Int32) at_41 43 rfl rfl ?_
  refine o_bipush X_227 K (8 : Int32) at_43 45 rfl rfl ?_
  refine o_bastore X_227 K (i := 8) (x' := (8 : Int32)) at_45 46 rfl e_227 A_227 (by decide) (by decide) (by decide) N_227 g_mm ?_
  intro T_228 h_228 locs_228 X_228 e_228 W_228 A_228 N_228
  have Z_228 : n0 ≤ h_228.size := by rw [Wr.size W_228]; exact Z_227
  refine o_dup X_228 K at_46 47 rfl rfl ?_
  refine o_bipush X_228 K (9 : Int32) at_47 49 rfl rfl ?_
  refine o_bipush X_228 K (9 : Int32) at_49 51 rfl rfl ?_
  refine o_bastore X_228 K (i := 9) (x' := (9 : Int32)) at_51 52 rfl e_228 A_228 (by decide) (by decide) (by decide) N_228 g_mm ?_
  intro T_229 h_229 locs_229 X_229 e_229 W_229 A_229 N_229
  have Z_229 : n0 ≤ h_229.size := by rw [Wr.size W_229]; exact Z_228
  refine o_dup X_229 K at_52 53 rfl rfl ?_
  refine o_bipush X_229 K (10 : Int32) at_53 55 rfl rfl ?_
  refine o_bipush X_229 K (10 : Int32) at_55 57 rfl rfl ?_
  refine o_bastore X_229 K (i := 10) (x' := (10 : Int32)) at_57 58 rfl e_229 A_229 (by decide) (by decide) (by decide) N_229 g_mm ?_
  intro T_230 h_230 locs_230 X_230 e_230 W_230 A_230 N_230
  have Z_230 : n0 ≤ h_230.size := by rw [Wr.size W_230]; exact Z_229
  refine o_dup X_230 K at_58 59 rfl rfl ?_
  refine o_bipush X_230 K (11 : Int32) at_59 61 rfl rfl ?_
  refine o_bipush X_230 K (11 : Int32) at_61 63 rfl rfl ?_
  refine o_bastore X_230 K (i := 11) (x' := (11 : Int32)) at_63 64 rfl e_230 A_230 (by decide) (by decide) (by decide) N_230 g_mm ?_
  intro T_231 h_231 locs_231 X_231 e_231 W_231 A_231 N_231
  have Z_231 : n0 ≤ h_231.size := by rw [Wr.size W_231]; exact Z_230
  refine o_dup X_231 K at_64 65 rfl rfl ?_
  refine o_bipush X_231 K (12 : Int32) at_65 67 rfl rfl ?_
  refine o_bipush X_231 K (12 : Int32) at_67 69 rfl rfl ?_
  refine o_bastore X_231 K (i := 12) (x' := (12 : Int32)) at_69 70 rfl e_231 A_231 (by decide) (by decide) (by decide) N_231 g_mm ?_
  intro T_232 h_232 locs_232 X_232 e_232 W_232 A_232 N_232
  have Z_232 : n0 ≤ h_232.size := by rw [Wr.size W_232]; exact Z_231
  refine o_dup X_232 K at_70 71 rfl rfl ?_
  refine o_bipush X_232 K (13 : Int32) at_71 73 rfl rfl ?_
  refine o_bipush X_232 K (13 : Int32) at_73 75 rfl rfl ?_
  refine o_bastore X_232 K (i := 13) (x' := (13 : Int32)) at_75 76 rfl e_232 A_232 (by decide) (by decide) (by decide) N_232 g_mm ?_
  intro T_233 h_233 locs_233 X_233 e_233 W_233 A_233 N_233
  have Z_233 : n0 ≤ h_233.size := by rw [Wr.size W_233]; exact Z_232
  refine o_dup X_233 K at_76 77 rfl rfl ?_
  refine o_bipush X_233 K (14 : Int32) at_77 79 rfl rfl ?_
  refine o_bipush X_233 K (14 : Int32) at_79 81 rfl rfl ?_
  refine o_bastore X_233 K (i := 14) (x' := (14 : Int32)) at_81 82 rfl e_233 A_233 (by decide) (by decide) (by decide) N_233 g_mm ?_
  intro T_234 h_234 locs_234 X_234 e_234 W_234 A_234 N_234
  have Z_234 : n0 ≤ h_234.size := by rw [Wr.size W_234]; exact Z_233
  have MM : OAr Z h_234 mm .byte 15 (fun j => .int (Int32.ofNat j)) := A_234.congr (fun j hj => by rcases (by omega : j = 0 ∨ j = 1 ∨ j = 2 ∨ j = 3 ∨ j = 4 ∨ j = 5 ∨ j = 6 ∨ j = 7 ∨ j = 8 ∨ j = 9 ∨ j = 10 ∨ j = 11 ∨ j = 12 ∨ j = 13 ∨ j = 14) with rfl | rfl | rfl | rfl | rfl | rfl | rfl | rfl | rfl | rfl | rfl | rfl | rfl | rfl | rfl <;> rfl)
  refine o_astore X_234 K at_82 84 rfl #[.val (.long p0), .second, .val (.long p1), .second, .val (.long p2), .second, .val (.long p3), .second, .val (.long p4), .second, .val (.int p5), .val (.ref mm), .unset, .unset, .unset, .unset, .unset, .unset, .unset, .unset, .unset, .unset, .unset, .unset, .unset, .unset, .unset, .unset] rfl rfl ?_
  refine o_iload X_234 K at_84 86 rfl rfl ?_
  refine o_bipush X_234 K (7 : Int32) at_86 88 rfl rfl ?_
  refine o_iand X_234 K at_88 89 rfl ?_
  obtain ⟨of1, h_of1⟩ : ∃ z_ : Int32, z_ = (p5 &&& (7 : Int32)) := ⟨_, rfl⟩
  refine o_istore X_234 K at_89 91 rfl #[.val (.long p0), .second, .val (.long p1), .second, .val (.long p2), .second, .val (.long p3), .second, .val (.long p4), .second, .val (.int p5), .val (.ref mm), .val (.int of1), .unset, .unset, .unset, .unset, .unset, .unset, .unset, .unset, .unset, .unset, .unset, .unset, .unset, .unset, .unset] h_of1.symm rfl ?_
  have ho1 : 0 ≤ of1.toInt ∧ of1.toInt ≤ 7 := by rw [h_of1]; exact c_and _ _ (by decide)
  refine o_iload X_234 K at_91 93 rfl rfl ?_
  refine o_iconst X_234 K (3 : Int32) at_93 94 rfl rfl ?_
  refine o_iushr X_234 K at_94 95 rfl ?_
  refine o_sipush X_234 K (255 : Int32) at_95 98 rfl rfl ?_
  refine o_iand X_234 K at_98 99 rfl ?_
  refine o_bipush X_234 K (17 : Int32) at_99 101 rfl rfl ?_
  refine o_irem X_234 K at_101 102 rfl (by decide) ?_
  obtain ⟨len, h_len⟩ : ∃ z_ : Int32, z_ = ((((p5.toUInt32 >>> ((3 : Int32) &&& 31).toUInt32).toInt32) &&& (255 : Int32)) % (17 : Int32)) := ⟨_, rfl⟩
  refine o_istore X_234 K at_102 104 rfl #[.val (.long p0), .second, .val (.long p1), .second, .val (.long p2), .second, .val (.long p3), .second, .val (.long p4), .second, .val (.int p5), .val (.ref mm), .val (.int of1), .val (.int len), .unset, .unset, .unset, .unset, .unset, .unset, .unset, .unset, .unset, .unset, .unset, .unset, .unset, .unset] h_len.symm rfl ?_
  have hln : 0 ≤ len.toInt ∧ len.toInt ≤ 16 := by
    rw [h_len]
    have q1 := c_and ((p5.toUInt32 >>> ((3 : Int32) &&& 31).toUInt32).toInt32) 255 (by decide)
    have q2 := (c_iremV (((p5.toUInt32 >>> ((3 : Int32) &&& 31).toUInt32).toInt32) &&& 255) 17).1 q1.1 (by decide)
    have q3 : (17 : Int32).toInt = 17 := rfl
    omega
  refine o_iload X_234 K at_104 106 rfl rfl ?_
  refine o_bipush X_234 K (11 : Int32) at_106 108 rfl rfl ?_
  refine o_iushr X_234 K at_108 109 rfl ?_
  refine o_bipush X_234 K (7 : Int32) at_109 111 rfl rfl ?_
  refine o_iand X_234 K at_111 112 rfl ?_
  obtain ⟨of2, h_of2⟩ : ∃ z_ : Int32, z_ = (((p5.toUInt32 >>> ((11 : Int32) &&& 31).toUInt32).toInt32) &&& (7 : Int32)) := ⟨_, rfl⟩
  refine o_istore X_234 K at_112 114 rfl #[.val (.long p0), .second, .val (.long p1), .second, .val (.long p2), .second, .val (.long p3), .second, .val (.long p4), .second, .val (.int p5), .val (.ref mm), .val (.int of1), .val (.int len), .val (.int of2), .unset, .unset, .unset, .unset, .unset, .unset, .unset, .unset, .unset, .unset, .unset, .unset, .unset] h_of2.symm rfl ?_
  have ho2 : 0 ≤ of2.toInt ∧ of2.toInt ≤ 7 := by rw [h_of2]; exact c_and _ _ (by decide)
  refine o_iload X_234 K at_114 116 rfl rfl ?_
  refine o_bipush X_234 K (14 : Int32) at_116 118 rfl rfl ?_
  refine o_iushr X_234 K at_118 119 rfl ?_
  refine o_bipush X_234 K (15 : Int32) at_119 121 rfl rfl ?_
  refine o_iand X_234 K at_121 122 rfl ?_
  obtain ⟨ee, h_ee⟩ : ∃ z_ : Int32, z_ = (((p5.toUInt32 >>> ((14 : Int32) &&& 31).toUInt32).toInt32) &&& (15 : Int32)) := ⟨_, rfl⟩
  refine o_istore X_234 K at_122 124 rfl #[.val (.long p0), .second, .val (.long p1), .second, .val (.long p2), .second, .val (.long p3), .second, .val (.long p4), .second, .val (.int p5), .val (.ref mm), .val (.int of1), .val (.int len), .val (.int of2), .val (.int ee), .unset, .unset, .unset, .unset, .unset, .unset, .unset, .unset, .unset, .unset, .unset, .unset] h_ee.symm rfl ?_
  have hee : 0 ≤ ee.toInt ∧ ee.toInt ≤ 15 := by rw [h_ee]; exact c_and _ _ (by decide)
  refine o_bipush X_234 K (24 : Int32) at_124 126 rfl rfl ?_
  refine o_newarray X_234 K (n := 24) at_126 128 rfl (w_0 hw) e_234 (by decide) 24 (by decide) (by decide) (by decide) (by decide) rfl ?_
  intro T_235 h_235 aa g_235 X_235 e_235 E_235 A_235
  dsimp only [newarray.typeOf, defaultValue] at A_235
  have Z_235 : n0 ≤ h_235.size := Nat.le_trans Z_234 E_235.1
  have f_236 := MM.ext E_235
  have g_aa : n0 ≤ aa := by rw [g_235]; exact Z_234
  have ne_mm_aa : mm ≠ aa := by rw [g_235]; exact Nat.ne_of_lt MM.lt
  refine o_astore X_235 K at_128 130 rfl #[.val (.long p0), .second, .val (.long p1), .second, .val (.long p2), .second, .val (.long p3), .second, .val (.long p4), .second, .val (.int p5), .val (.ref mm), .val (.int of1), .val (.int len), .val (.int of2), .val (.int ee), .val (.ref aa), .unset, .unset, .unset, .unset, .unset, .unset, .unset, .unset, .unset, .unset, .unset] rfl rfl ?_
  refine o_bipush X_235 K (24 : Int32) at_130 132 rfl rfl ?_
  refine o_newarray X_235 K (n := 24) at_132 134 rfl (w_0 hw) e_235 (by decide) 24 (by decide) (by decide) (by decide) (by decide) rfl ?_
  intro T_237 h_237 bb g_237 X_237 e_237 E_237 A_237
  dsimp only [newarray.typeOf, defaultValue] at A_237
  have Z_237 : n0 ≤ h_237.size := Nat.le_trans Z_235 E_237.1
  have f_238 := f_236.ext E_237
  have f_239 := A_235.ext E_237
  have g_bb : n0 ≤ bb := by rw [g_237]; exact Z_235
  have ne_mm_bb : mm ≠ bb := by rw [g_237]; exact Nat.ne_of_lt f_236.lt
  have ne_aa_bb : aa ≠ bb := by rw [g_237]; exact Nat.ne_of_lt A_235.lt
  refine o_astore X_237 K at_134 136 rfl #[.val (.long p0), .second, .val (.long p1), .second, .val (.long p2), .second, .val (.long p3), .second, .val (.long p4), .second, .val (.int p5), .val (.ref mm), .val (.int of1), .val (.int len), .val (.int of2), .val (.int ee), .val (.ref aa), .val (.ref bb), .unset, .unset, .unset, .unset, .unset, .unset, .unset, .unset, .unset, .unset] rfl rfl ?_
  have PA0 : OAr Z h_237 aa .byte 24 (fun q => if q < 0 then (fun j => .int (own_data p2 p3 p4 (Int32.ofNat j))) q else .int (0 : Int32)) := f_239.congr (fun j hj => by rw [if_neg (by omega)])
  have PB0 : OAr Z h_237 bb .byte 24 (fun q => if q < 0 then (fun j => .int (own_bv p2 p3 p4 (Int32.ofNat j) of1 of2 len)) q else .int (0 : Int32)) := A_237.congr (fun j hj => by rw [if_neg (by omega)])
  refine o_aload X_237 K at_136 138 rfl rfl rfl ?_
  refine o_aload X_237 K at_138 140 rfl rfl rfl ?_
  refine o_iconst X_237 K (0 : Int32) at_140 141 rfl rfl ?_
  refine o_lload X_237 K at_141 143 rfl rfl ?_
  refine o_lload X_237 K at_143 145 rfl rfl ?_
  refine o_lload X_237 K at_145 147 rfl rfl ?_
  refine o_iload X_237 K at_147 149 rfl rfl ?_
  refine o_iload X_237 K at_149 151 rfl rfl ?_
  refine o_iload X_237 K at_151 153 rfl rfl ?_
  refine o_invokestatic X_237 K at_153 156 rfl (w_1 hw) (w_2 hw) (w_3 hw) (w_4 hw) (by decide) [(.ref aa), (.ref bb), (.int (0 : Int32)), (.long p2), (.long p3), (.long p4), (.int of1), (.int of2), (.int len)] [] rfl  (c_put l Z a0 hw n0 aa bb (0 : Int32) 0 p2 p3 p4 of1 of2 len _ _ h_237 Z_237 PA0 g_aa PB0 g_bb ne_aa_bb (⟨by decide, by decide, ho2.1, ho2.2, hln.1, hln.2⟩)) e_237 rfl (lenOf pd___B_BIJJJIII_V rfl) (by decide) 0 (Nat.le_of_eq rfl) (by decide) (by decide) (by decide) N_234 ?_
  rintro _ T_240 h_240 locs_240 X_240 e_240 ⟨rfl, k_240, p_240f0, p_240f1⟩ N_240
  have Z_240 : n0 ≤ h_240.size := Nat.le_trans Z_237 k_240.1
  have f_241 := f_238.keep k_240 (ninS ne_mm_aa (ninS ne_mm_bb (nin0)))
  have PA1 : OAr Z h_240 aa .byte 24 (fun q => if q < 1 then (fun j => .int (own_data p2 p3 p4 (Int32.ofNat j))) q else .int (0 : Int32)) := p_240f0.congr (fun q _ => own_upd (fun j => .int (own_data p2 p3 p4 (Int32.ofNat j))) (.int (0 : Int32)) 0 q)
  have PB1 : OAr Z h_240 bb .byte 24 (fun q => if q < 1 then (fun j => .int (own_bv p2 p3 p4 (Int32.ofNat j) of1 of2 len)) q else .int (0 : Int32)) := p_240f1.congr (fun q _ => own_upd (fun j => .int (own_bv p2 p3 p4 (Int32.ofNat j) of1 of2 len)) (.int (0 : Int32)) 0 q)
  show OGo p e below s n0 _ _ _ (T_240.setTop (mkF m 156 #[.val (.long p0), .second, .val (.long p1), .second, .val (.long p2), .second, .val (.long p3), .second, .val (.long p4), .second, .val (.int p5), .val (.ref mm), .val (.int of1), .val (.int len), .val (.int of2), .val (.int ee), .val (.ref aa), .val (.ref bb), .unset, .unset, .unset, .unset, .unset, .unset, .unset, .unset, .unset, .unset] []))
  refine o_aload X_240 K at_156 158 rfl rfl rfl ?_
  refine o_aload X_240 K at_158 160 rfl rfl rfl ?_
  refine o_iconst X_240 K (1 : Int32) at_160 161 rfl rfl ?_
  refine o_lload X_240 K at_161 163 rfl rfl ?_
  refine o_lload X_240 K at_163 165 rfl rfl ?_
  refine o_lload X_240 K at_165 167 rfl rfl ?_
  refine o_iload X_240 K at_167 169 rfl rfl ?_
  refine o_iload X_240 K at_169 171 rfl rfl ?_
  refine o_iload X_240 K at_171 173 rfl rfl ?_
  refine o_invokestatic X_240 K at_173 176 rfl (w_1 hw) (w_2 hw) (w_3 hw) (w_4 hw) (by decide) [(.ref aa), (.ref bb), (.int (1 : Int32)), (.long p2), (.long p3), (.long p4), (.int of1), (.int of2), (.int len)] [] rfl  (c_put l Z a0 hw n0 aa bb (1 : Int32) 1 p2 p3 p4 of1 of2 len _ _ h_240 Z_240 PA1 g_aa PB1 g_bb ne_aa_bb (⟨by decide, by decide, ho2.1, ho2.2, hln.1, hln.2⟩)) e_240 rfl (lenOf pd___B_BIJJJIII_V rfl) (by decide) 0 (Nat.le_of_eq rfl) (by decide) (by decide) (by decide) N_240 ?_
  rintro _ T_242 h_242 locs_242 X_242 e_242 ⟨rfl, k_242, p_242f0, p_242f1⟩ N_242
  have Z_242 : n0 ≤ h_242.size := Nat.le_trans Z_240 k_242.1
  have f_243 := f_241.keep k_242 (ninS ne_mm_aa (ninS ne_mm_bb (nin0)))
  have PA2 : OAr Z h_242 aa .byte 24 (fun q => if q < 2 then (fun j => .int (own_data p2 p3 p4 (Int32.ofNat j))) q else .int (0 : Int32)) := p_242f0.congr (fun q _ => own_upd (fun j => .int (own_data p2 p3 p4 (Int32.ofNat j))) (.int (0 : Int32)) 1 q)
  have PB2 : OAr Z h_242 bb .byte 24 (fun q => if q < 2 then (fun j => .int (own_bv p2 p3 p4 (Int32.ofNat j) of1 of2 len)) q else .int (0 : Int32)) := p_242f1.congr (fun q _ => own_upd (fun j => .int (own_bv p2 p3 p4 (Int32.ofNat j) of1 of2 len)) (.int (0 : Int32)) 1 q)
  show OGo p e below s n0 _ _ _ (T_242.setTop (mkF m 176 #[.val (.long p0), .second, .val (.long p1), .second, .val (.long p2), .second, .val (.long p3), .second, .val (.long p4), .second, .val (.int p5), .val (.ref mm), .val (.int of1), .val (.int len), .val (.int of2), .val (.int ee), .val (.ref aa), .val (.ref bb), .unset, .unset, .unset, .unset, .unset, .unset, .unset, .unset, .unset, .unset] []))
  refine o_aload X_242 K at_176 178 rfl rfl rfl ?_
  refine o_aload X_242 K at_178 180 rfl rfl rfl ?_
  refine o_iconst X_242 K (2 : Int32) at_180 181 rfl rfl ?_
  refine o_lload X_242 K at_181 183 rfl rfl ?_
  refine o_lload X_242 K at_183 185 rfl rfl ?_
  refine o_lload X_242 K at_185 187 rfl rfl ?_
  refine o_iload X_242 K at_187 189 rfl rfl ?_
  refine o_iload X_242 K at_189 191 rfl rfl ?_
  refine o_iload X_242 K at_191 193 rfl rfl ?_
  refine o_invokestatic X_242 K at_193 196 rfl (w_1 hw) (w_2 hw) (w_3 hw) (w_4 hw) (by decide) [(.ref aa), (.ref bb), (.int (2 : Int32)), (.long p2), (.long p3), (.long p4), (.int of1), (.int of2), (.int len)] [] rfl  (c_put l Z a0 hw n0 aa bb (2 : Int32) 2 p2 p3 p4 of1 of2 len _ _ h_242 Z_242 PA2 g_aa PB2 g_bb ne_aa_bb (⟨by decide, by decide, ho2.1, ho2.2, hln.1, hln.2⟩)) e_242 rfl (lenOf pd___B_BIJJJIII_V rfl) (by decide) 0 (Nat.le_of_eq rfl) (by decide) (by decide) (by decide) N_242 ?_
  rintro _ T_244 h_244 locs_244 X_244 e_244 ⟨rfl, k_244, p_244f0, p_244f1⟩ N_244
  have Z_244 : n0 ≤ h_244.size := Nat.le_trans Z_242 k_244.1
  have f_245 := f_243.keep k_244 (ninS ne_mm_aa (ninS ne_mm_bb (nin0)))
  have PA3 : OAr Z h_244 aa .byte 24 (fun q => if q < 3 then (fun j => .int (own_data p2 p3 p4 (Int32.ofNat j))) q else .int (0 : Int32)) := p_244f0.congr (fun q _ => own_upd (fun j => .int (own_data p2 p3 p4 (Int32.ofNat j))) (.int (0 : Int32)) 2 q)
  have PB3 : OAr Z h_244 bb .byte 24 (fun q => if q < 3 then (fun j => .int (own_bv p2 p3 p4 (Int32.ofNat j) of1 of2 len)) q else .int (0 : Int32)) := p_244f1.congr (fun q _ => own_upd (fun j => .int (own_bv p2 p3 p4 (Int32.ofNat j) of1 of2 len)) (.int (0 : Int32)) 2 q)
  show OGo p e below s n0 _ _ _ (T_244.setTop (mkF m 196 #[.val (.long p0), .second, .val (.long p1), .second, .val (.long p2), .second, .val (.long p3), .second, .val (.long p4), .second, .val (.int p5), .val (.ref mm), .val (.int of1), .val (.int len), .val (.int of2), .val (.int ee), .val (.ref aa), .val (.ref bb), .unset, .unset, .unset, .unset, .unset, .unset, .unset, .unset, .unset, .unset] []))
  refine o_aload X_244 K at_196 198 rfl rfl rfl ?_
  refine o_aload X_244 K at_198 200 rfl rfl rfl ?_
  refine o_iconst X_244 K (3 : Int32) at_200 201 rfl rfl ?_
  refine o_lload X_244 K at_201 203 rfl rfl ?_
  refine o_lload X_244 K at_203 205 rfl rfl ?_
  refine o_lload X_244 K at_205 207 rfl rfl ?_
  refine o_iload X_244 K at_207 209 rfl rfl ?_
  refine o_iload X_244 K at_209 211 rfl rfl ?_
  refine o_iload X_244 K at_211 213 rfl rfl ?_
  refine o_invokestatic X_244 K at_213 216 rfl (w_1 hw) (w_2 hw) (w_3 hw) (w_4 hw) (by decide) [(.ref aa), (.ref bb), (.int (3 : Int32)), (.long p2), (.long p3), (.long p4), (.int of1), (.int of2), (.int len)] [] rfl  (c_put l Z a0 hw n0 aa bb (3 : Int32) 3 p2 p3 p4 of1 of2 len _ _ h_244 Z_244 PA3 g_aa PB3 g_bb ne_aa_bb (⟨by decide, by decide, ho2.1, ho2.2, hln.1, hln.2⟩)) e_244 rfl (lenOf pd___B_BIJJJIII_V rfl) (by decide) 0 (Nat.le_of_eq rfl) (by decide) (by decide) (by decide) N_244 ?_
  rintro _ T_246 h_246 locs_246 X_246 e_246 ⟨rfl, k_246, p_246f0, p_246f1⟩ N_246
  have Z_246 : n0 ≤ h_246.size := Nat.le_trans Z_244 k_246.1
  have f_247 := f_245.keep k_246 (ninS ne_mm_aa (ninS ne_mm_bb (nin0)))
  have PA4 : OAr Z h_246 aa .byte 24 (fun q => if q < 4 then (fun j => .int (own_data p2 p3 p4 (Int32.ofNat j))) q else .int (0 : Int32)) := p_246f0.congr (fun q _ => own_upd (fun j => .int (own_data p2 p3 p4 (Int32.ofNat j))) (.int (0 : Int32)) 3 q)
  have PB4 : OAr Z h_246 bb .byte 24 (fun q => if q < 4 then (fun j => .int (own_bv p2 p3 p4 (Int32.ofNat j) of1 of2 len)) q else .int (0 : Int32)) := p_246f1.congr (fun q _ => own_upd (fun j => .int (own_bv p2 p3 p4 (Int32.ofNat j) of1 of2 len)) (.int (0 : Int32)) 3 q)
  show OGo p e below s n0 _ _ _ (T_246.setTop (mkF m 216 #[.val (.long p0), .second, .val (.long p1), .second, .val (.long p2), .second, .val (.long p3), .second, .val (.long p4), .second, .val (.int p5), .val (.ref mm), .val (.int of1), .val (.int len), .val (.int of2), .val (.int ee), .val (.ref aa), .val (.ref bb), .unset, .unset, .unset, .unset, .unset, .unset, .unset, .unset, .unset, .unset] []))
  refine o_aload X_246 K at_216 218 rfl rfl rfl ?_
  refine o_aload X_246 K at_218 220 rfl rfl rfl ?_
  refine o_iconst X_246 K (4 : Int32) at_220 221 rfl rfl ?_
  refine o_lload X_246 K at_221 223 rfl rfl ?_
  refine o_lload X_246 K at_223 225 rfl rfl ?_
  refine o_lload X_246 K at_225 227 rfl rfl ?_
  refine o_iload X_246 K at_227 229 rfl rfl ?_
  refine o_iload X_246 K at_229 231 rfl rfl ?_
  refine o_iload X_246 K at_231 233 rfl rfl ?_
  refine o_invokestatic X_246 K at_233 236 rfl (w_1 hw) (w_2 hw) (w_3 hw) (w_4 hw) (by decide) [(.ref aa), (.ref bb), (.int (4 : Int32)), (.long p2), (.long p3), (.long p4), (.int of1), (.int of2), (.int len)] [] rfl  (c_put l Z a0 hw n0 aa bb (4 : Int32) 4 p2 p3 p4 of1 of2 len _ _ h_246 Z_246 PA4 g_aa PB4 g_bb ne_aa_bb (⟨by decide, by decide, ho2.1, ho2.2, hln.1, hln.2⟩)) e_246 rfl (lenOf pd___B_BIJJJIII_V rfl) (by decide) 0 (Nat.le_of_eq rfl) (by decide) (by decide) (by decide) N_246 ?_
  rintro _ T_248 h_248 locs_248 X_248 e_248 ⟨rfl, k_248, p_248f0, p_248f1⟩ N_248
  have Z_248 : n0 ≤ h_248.size := Nat.le_trans Z_246 k_248.1
  have f_249 := f_247.keep k_248 (ninS ne_mm_aa (ninS ne_mm_bb (nin0)))
  have PA5 : OAr Z h_248 aa .byte 24 (fun q => if q < 5 then (fun j => .int (own_data p2 p3 p4 (Int32.ofNat j))) q else .int (0 : Int32)) := p_248f0.congr (fun q _ => own_upd (fun j => .int (own_data p2 p3 p4 (Int32.ofNat j))) (.int (0 : Int32)) 4 q)
  have PB5 : OAr Z h_248 bb .byte 24 (fun q => if q < 5 then (fun j => .int (own_bv p2 p3 p4 (Int32.ofNat j) of1 of2 len)) q else .int (0 : Int32)) := p_248f1.congr (fun q _ => own_upd (fun j => .int (own_bv p2 p3 p4 (Int32.ofNat j) of1 of2 len)) (.int (0 : Int32)) 4 q)
  show OGo p e below s n0 _ _ _ (T_248.setTop (mkF m 236 #[.val (.long p0), .second, .val (.long p1), .second, .val (.long p2), .second, .val (.long p3), .second, .val (.long p4), .second, .val (.int p5), .val (.ref mm), .val (.int of1), .val (.int len), .val (.int of2), .val (.int ee), .val (.ref aa), .val (.ref bb), .unset, .unset, .unset, .unset, .unset, .unset, .unset, .unset, .unset, .unset] []))
  refine o_aload X_248 K at_236 238 rfl rfl rfl ?_
  refine o_aload X_248 K at_238 240 rfl rfl rfl ?_
  refine o_iconst X_248 K (5 : Int32) at_240 241 rfl rfl ?_
  refine o_lload X_248 K at_241 243 rfl rfl ?_
  refine o_lload X_248 K at_243 245 rfl rfl ?_
  refine o_lload X_248 K at_245 247 rfl rfl ?_
  refine o_iload X_248 K at_247 249 rfl rfl ?_
  refine o_iload X_248 K at_249 251 rfl rfl ?_
  refine o_iload X_248 K at_251 253 rfl rfl ?_
  refine o_invokestatic X_248 K at_253 256 rfl (w_1 hw) (w_2 hw) (w_3 hw) (w_4 hw) (by decide) [(.ref aa), (.ref bb), (.int (5 : Int32)), (.long p2), (.long p3), (.long p4), (.int of1), (.int of2), (.int len)] [] rfl  (c_put l Z a0 hw n0 aa bb (5 : Int32) 5 p2 p3 p4 of1 of2 len _ _ h_248 Z_248 PA5 g_aa PB5 g_bb ne_aa_bb (⟨by decide, by decide, ho2.1, ho2.2, hln.1, hln.2⟩)) e_248 rfl (lenOf pd___B_BIJJJIII_V rfl) (by decide) 0 (Nat.le_of_eq rfl) (by decide) (by decide) (by decide) N_248 ?_
  rintro _ T_250 h_250 locs_250 X_250 e_250 ⟨rfl, k_250, p_250f0, p_250f1⟩ N_250
  have Z_250 : n0 ≤ h_250.size := Nat.le_trans Z_248 k_250.1
  have f_251 := f_249.keep k_250 (ninS ne_mm_aa (ninS ne_mm_bb (nin0)))
  have PA6 : OAr Z h_250 aa .byte 24 (fun q => if q < 6 then (fun j => .int (own_data p2 p3 p4 (Int32.ofNat j))) q else .int (0 : Int32)) := p_250f0.congr (fun q _ => own_upd (fun j => .int (own_data p2 p3 p4 (Int32.ofNat j))) (.int (0 : Int32)) 5 q)
  have PB6 : OAr Z h_250 bb .byte 24 (fun q => if q < 6 then (fun j => .int (own_bv p2 p3 p4 (Int32.ofNat j) of1 of2 len)) q else .int (0 : Int32)) := p_250f1.congr (fun q _ => own_upd (fun j => .int (own_bv p2 p3 p4 (Int32.ofNat j) of1 of2 len)) (.int (0 : Int32)) 5 q)
  show OGo p e below s n0 _ _ _ (T_250.setTop (mkF m 256 #[.val (.long p0), .second, .val (.long p1), .second, .val (.long p2), .second, .val (.long p3), .second, .val (.long p4), .second, .val (.int p5), .val (.ref mm), .val (.int of1), .val (.int len), .val (.int of2), .val (.int ee), .val (.ref aa), .val (.ref bb), .unset, .unset, .unset, .unset, .unset, .unset, .unset, .unset, .unset, .unset] []))
  refine o_aload X_250 K at_256 258 rfl rfl rfl ?_
  refine o_aload X_250 K at_258 260 rfl rfl rfl ?_
  refine o_bipush X_250 K (6 : Int32) at_260 262 rfl rfl ?_
  refine o_lload X_250 K at_262 264 rfl rfl ?_
  refine o_lload X_250 K at_264 266 rfl rfl ?_
  refine o_lload X_250 K at_266 268 rfl rfl ?_
  refine o_iload X_250 K at_268 270 rfl rfl ?_
  refine o_iload X_250 K at_270 272 rfl rfl ?_
  refine o_iload X_250 K at_272 274 rfl rfl ?_
  refine o_invokestatic X_250 K at_274 277 rfl (w_1 hw) (w_2 hw) (w_3 hw) (w_4 hw) (by decide) [(.ref aa), (.ref bb), (.int (6 : Int32)), (.long p2), (.long p3), (.long p4), (.int of1), (.int of2), (.int len)] [] rfl  (c_put l Z a0 hw n0 aa bb (6 : Int32) 6 p2 p3 p4 of1 of2 len _ _ h_250 Z_250 PA6 g_aa PB6 g_bb ne_aa_bb (⟨by decide, by decide, ho2.1, ho2.2, hln.1, hln.2⟩)) e_250 rfl (lenOf pd___B_BIJJJIII_V rfl) (by decide) 0 (Nat.le_of_eq rfl) (by decide) (by decide) (by decide) N_250 ?_
  rintro _ T_252 h_252 locs_252 X_252 e_252 ⟨rfl, k_252, p_252f0, p_252f1⟩ N_252
  have Z_252 : n0 ≤ h_252.size := Nat.le_trans Z_250 k_252.1
  have f_253 := f_251.keep k_252 (ninS ne_mm_aa (ninS ne_mm_bb (nin0)))
  have PA7 : OAr Z h_252 aa .byte 24 (fun q => if q < 7 then (fun j => .int (own_data p2 p3 p4 (Int32.ofNat j))) q else .int (0 : Int32)) := p_252f0.congr (fun q _ => own_upd (fun j => .int (own_data p2 p3 p4 (Int32.ofNat j))) (.int (0 : Int32)) 6 q)
  have PB7 : OAr Z h_252 bb .byte 24 (fun q => if q < 7 then (fun j => .int (own_bv p2 p3 p4 (Int32.ofNat j) of1 of2 len)) q else .int (0 : Int32)) := p_252f1.congr (fun q _ => own_upd (fun j => .int (own_bv p2 p3 p4 (Int32.ofNat j) of1 of2 len)) (.int (0 : Int32)) 6 q)
  show OGo p e below s n0 _ _ _ (T_252.setTop (mkF m 277 #[.val (.long p0), .second, .val (.long p1), .second, .val (.long p2), .second, .val (.long p3), .second, .val (.long p4), .second, .val (.int p5), .val (.ref mm), .val (.int of1), .val (.int len), .val (.int of2), .val (.int ee), .val (.ref aa), .val (.ref bb), .unset, .unset, .unset, .unset, .unset, .unset, .unset, .unset, .unset, .unset] []))
  refine o_aload X_252 K at_277 279 rfl rfl rfl ?_
  refine o_aload X_252 K at_279 281 rfl rfl rfl ?_
  refine o_bipush X_252 K (7 : Int32) at_281 283 rfl rfl ?_
  refine o_lload X_252 K at_283 285 rfl rfl ?_
  refine o_lload X_252 K at_285 287 rfl rfl ?_
  refine o_lload X_252 K at_287 289 rfl rfl ?_
  refine o_iload X_252 K at_289 291 rfl rfl ?_
  refine o_iload X_252 K at_291 293 rfl rfl ?_
  refine o_iload X_252 K at_293 295 rfl rfl ?_
  refine o_invokestatic X_252 K at_295 298 rfl (w_1 hw) (w_2 hw) (w_3 hw) (w_4 hw) (by decide) [(.ref aa), (.ref bb), (.int (7 : Int32)), (.long p2), (.long p3), (.long p4), (.int of1), (.int of2), (.int len)] [] rfl  (c_put l Z a0 hw n0 aa bb (7 : Int32) 7 p2 p3 p4 of1 of2 len _ _ h_252 Z_252 PA7 g_aa PB7 g_bb ne_aa_bb (⟨by decide, by decide, ho2.1, ho2.2, hln.1, hln.2⟩)) e_252 rfl (lenOf pd___B_BIJJJIII_V rfl) (by decide) 0 (Nat.le_of_eq rfl) (by decide) (by decide) (by decide) N_252 ?_
  rintro _ T_254 h_254 locs_254 X_254 e_254 ⟨rfl, k_254, p_254f0, p_254f1⟩ N_254
  have Z_254 : n0 ≤ h_254.size := Nat.le_trans Z_252 k_254.1
  have f_255 := f_253.keep k_254 (ninS ne_mm_aa (ninS ne_mm_bb (nin0)))
  have PA8 : OAr Z h_254 aa .byte 24 (fun q => if q < 8 then (fun j => .int (own_data p2 p3 p4 (Int32.ofNat j))) q else .int (0 : Int32)) := p_254f0.congr (fun q _ => own_upd (fun j => .int (own_data p2 p3 p4 (Int32.ofNat j))) (.int (0 : Int32)) 7 q)
  have PB8 : OAr Z h_254 bb .byte 24 (fun q => if q < 8 then (fun j => .int (own_bv p2 p3 p4 (Int32.ofNat j) of1 of2 len)) q else .int (0 : Int32)) := p_254f1.congr (fun q _ => own_upd (fun j => .int (own_bv p2 p3 p4 (Int32.ofNat j) of1 of2 len)) (.int (0 : Int32)) 7 q)
  show OGo p e below s n0 _ _ _ (T_254.setTop (mkF m 298 #[.val (.long p0), .second, .val (.long p1), .second, .val (.long p2), .second, .val (.long p3), .second, .val (.long p4), .second, .val (.int p5), .val (.ref mm), .val (.int of1), .val (.int len), .val (.int of2), .val (.int ee), .val (.ref aa), .val (.ref bb), .unset, .unset, .unset, .unset, .unset, .unset, .unset, .unset, .unset, .unset] []))
  refine o_aload X_254 K at_298 300 rfl rfl rfl ?_
  refine o_aload X_254 K at_300 302 rfl rfl rfl ?_
  refine o_bipush X_254 K (8 : Int32) at_302 304 rfl rfl ?_
  refine o_lload X_254 K at_304 306 rfl rfl ?_
  refine o_lload X_254 K at_306 308 rfl rfl ?_
  refine o_lload X_254 K at_308 310 rfl rfl ?_
  refine o_iload X_254 K at_310 312 rfl rfl ?_
  refine o_iload X_254 K at_312 314 rfl rfl ?_
  refine o_iload X_254 K at_314 316 rfl rfl ?_
  refine o_invokestatic X_254 K at_316 319 rfl (w_1 hw) (w_2 hw) (w_3 hw) (w_4 hw) (by decide) [(.ref aa), (.ref bb), (.int (8 : Int32)), (.long p2), (.long p3), (.long p4), (.int of1), (.int of2), (.int len)] [] rfl  (c_put l Z a0 hw n0 aa bb (8 : Int32) 8 p2 p3 p4 of1 of2 len _ _ h_254 Z_254 PA8 g_aa PB8 g_bb ne_aa_bb (⟨by decide, by decide, ho2.1, ho2.2, hln.1, hln.2⟩)) e_254 rfl (lenOf pd___B_BIJJJIII_V rfl) (by decide) 0 (Nat.le_of_eq rfl) (by decide) (by decide) (by decide) N_254 ?_
  rintro _ T_256 h_256 locs_256 X_256 e_256 ⟨rfl, k_256, p_256f0, p_256f1⟩ N_256
  have Z_256 : n0 ≤ h_256.size := Nat.le_trans Z_254 k_256.1
  have f_257 := f_255.keep k_256 (ninS ne_mm_aa (ninS ne_mm_bb (nin0)))
  have PA9 : OAr Z h_256 aa .byte 24 (fun q => if q < 9 then (fun j => .int (own_data p2 p3 p4 (Int32.ofNat j))) q else .int (0 : Int32)) := p_256f0.congr (fun q _ => own_upd (fun j => .int (own_data p2 p3 p4 (Int32.ofNat j))) (.int (0 : Int32)) 8 q)
  have PB9 : OAr Z h_256 bb .byte 24 (fun q => if q < 9 then (fun j => .int (own_bv p2 p3 p4 (Int32.ofNat j) of1 of2 len)) q else .int (0 : Int32)) := p_256f1.congr (fun q _ => own_upd (fun j => .int (own_bv p2 p3 p4 (Int32.ofNat j) of1 of2 len)) (.int (0 : Int32)) 8 q)
  show OGo p e below s n0 _ _ _ (T_256.setTop (mkF m 319 #[.val (.long p0), .second, .val (.long p1), .second, .val (.long p2), .second, .val (.long p3), .second, .val (.long p4), .second, .val (.int p5), .val (.ref mm), .val (.int of1), .val (.int len), .val (.int of2), .val (.int ee), .val (.ref aa), .val (.ref bb), .unset, .unset, .unset, .unset, .unset, .unset, .unset, .unset, .unset, .unset] []))
  refine o_aload X_256 K at_319 321 rfl rfl rfl ?_
  refine o_aload X_256 K at_321 323 rfl rfl rfl ?_
  refine o_bipush X_256 K (9 : Int32) at_323 325 rfl rfl ?_
  refine o_lload X_256 K at_325 327 rfl rfl ?_
  refine o_lload X_256 K at_327 329 rfl rfl ?_
  refine o_lload X_256 K at_329 331 rfl rfl ?_
  refine o_iload X_256 K at_331 333 rfl rfl ?_
  refine o_iload X_256 K at_333 335 rfl rfl ?_
  refine o_iload X_256 K at_335 337 rfl rfl ?_
  refine o_invokestatic X_256 K at_337 340 rfl (w_1 hw) (w_2 hw) (w_3 hw) (w_4 hw) (by decide) [(.ref aa), (.ref bb), (.int (9 : Int32)), (.long p2), (.long p3), (.long p4), (.int of1), (.int of2), (.int len)] [] rfl  (c_put l Z a0 hw n0 aa bb (9 : Int32) 9 p2 p3 p4 of1 of2 len _ _ h_256 Z_256 PA9 g_aa PB9 g_bb ne_aa_bb (⟨by decide, by decide, ho2.1, ho2.2, hln.1, hln.2⟩)) e_256 rfl (lenOf pd___B_BIJJJIII_V rfl) (by decide) 0 (Nat.le_of_eq rfl) (by decide) (by decide) (by decide) N_256 ?_
  rintro _ T_258 h_258 locs_258 X_258 e_258 ⟨rfl, k_258, p_258f0, p_258f1⟩ N_258
  have Z_258 : n0 ≤ h_258.size := Nat.le_trans Z_256 k_258.1
  have f_259 := f_257.keep k_258 (ninS ne_mm_aa (ninS ne_mm_bb (nin0)))
  have PA10 : OAr Z h_258 aa .byte 24 (fun q => if q < 10 then (fun j => .int (own_data p2 p3 p4 (Int32.ofNat j))) q else .int (0 : Int32)) := p_258f0.congr (fun q _ => own_upd (fun j => .int (own_data p2 p3 p4 (Int32.ofNat j))) (.int (0 : Int32)) 9 q)
  have PB10 : OAr Z h_258 bb .byte 24 (fun q => if q < 10 then (fun j => .int (own_bv p2 p3 p4 (Int32.ofNat j) of1 of2 len)) q else .int (0 : Int32)) := p_258f1.congr (fun q _ => own_upd (fun j => .int (own_bv p2 p3 p4 (Int32.ofNat j) of1 of2 len)) (.int (0 : Int32)) 9 q)
  show OGo p e below s n0 _ _ _ (T_258.setTop (mkF m 340 #[.val (.long p0), .second, .val (.long p1), .second, .val (.long p2), .second, .val (.long p3), .second, .val (.long p4), .second, .val (.int p5), .val (.ref mm), .val (.int of1), .val (.int len), .val (.int of2), .val (.int ee), .val (.ref aa), .val (.ref bb), .unset, .unset, .unset, .unset, .unset, .unset, .unset, .unset, .unset, .unset] []))
  refine o_aload X_258 K at_340 342 rfl rfl rfl ?_
  refine o_aload X_258 K at_342 344 rfl rfl rfl ?_
  refine o_bipush X_258 K (10 : Int32) at_344 346 rfl rfl ?_
  refine o_lload X_258 K at_346 348 rfl rfl ?_
  refine o_lload X_258 K at_348 350 rfl rfl ?_
  refine o_lload X_258 K at_350 352 rfl rfl ?_
  refine o_iload X_258 K at_352 354 rfl rfl ?_
  refine o_iload X_258 K at_354 356 rfl rfl ?_
  refine o_iload X_258 K at_356 358 rfl rfl ?_
  refine o_invokestatic X_258 K at_358 361 rfl (w_1 hw) (w_2 hw) (w_3 hw) (w_4 hw) (by decide) [(.ref aa), (.ref bb), (.int (10 : Int32)), (.long p2), (.long p3), (.long p4), (.int of1), (.int of2), (.int len)] [] rfl  (c_put l Z a0 hw n0 aa bb (10 : Int32) 10 p2 p3 p4 of1 of2 len _ _ h_258 Z_258 PA10 g_aa PB10 g_bb ne_aa_bb (⟨by decide, by decide, ho2.1, ho2.2, hln.1, hln.2⟩)) e_258 rfl (lenOf pd___B_BIJJJIII_V rfl) (by decide) 0 (Nat.le_of_eq rfl) (by decide) (by decide) (by decide) N_258 ?_
  rintro _ T_260 h_260 locs_260 X_260 e_260 ⟨rfl, k_260, p_260f0, p_260f1⟩ N_260
  have Z_260 : n0 ≤ h_260.size := Nat.le_trans Z_258 k_260.1
  have f_261 := f_259.keep k_260 (ninS ne_mm_aa (ninS ne_mm_bb (nin0)))
  have PA11 : OAr Z h_260 aa .byte 24 (fun q => if q < 11 then (fun j => .int (own_data p2 p3 p4 (Int32.ofNat j))) q else .int (0 : Int32)) := p_260f0.congr (fun q _ => own_upd (fun j => .int (own_data p2 p3 p4 (Int32.ofNat j))) (.int (0 : Int32)) 10 q)
  have PB11 : OAr Z h_260 bb .byte 24 (fun q => if q < 11 then (fun j => .int (own_bv p2 p3 p4 (Int32.ofNat j) of1 of2 len)) q else .int (0 : Int32)) := p_260f1.congr (fun q _ => own_upd (fun j => .int (own_bv p2 p3 p4 (Int32.ofNat j) of1 of2 len)) (.int (0 : Int32)) 10 q)
  show OGo p e below s n0 _ _ _ (T_260.setTop (mkF m 361 #[.val (.long p0), .second, .val (.long p1), .second, .val (.long p2), .second, .val (.long p3), .second, .val (.long p4), .second, .val (.int p5), .val (.ref mm), .val (.int of1), .val (.int len), .val (.int of2), .val (.int ee), .val (.ref aa), .val (.ref bb), .unset, .unset, .unset, .unset, .unset, .unset, .unset, .unset, .unset, .unset] []))
  refine o_aload X_260 K at_361 363 rfl rfl rfl ?_
  refine o_aload X_260 K at_363 365 rfl rfl rfl ?_
  refine o_bipush X_260 K (11 : Int32) at_365 367 rfl rfl ?_
  refine o_lload X_260 K at_367 369 rfl rfl ?_
  refine o_lload X_260 K at_369 371 rfl rfl ?_
  refine o_lload X_260 K at_371 373 rfl rfl ?_
  refine o_iload X_260 K at_373 375 rfl rfl ?_
  refine o_iload X_260 K at_375 377 rfl rfl ?_
  refine o_iload X_260 K at_377 379 rfl rfl ?_
  refine o_invokestatic X_260 K at_379 382 rfl (w_1 hw) (w_2 hw) (w_3 hw) (w_4 hw) (by decide) [(.ref aa), (.ref bb), (.int (11 : Int32)), (.long p2), (.long p3), (.long p4), (.int of1), (.int of2), (.int len)] [] rfl  (c_put l Z a0 hw n0 aa bb (11 : Int32) 11 p2 p3 p4 of1 of2 len _ _ h_260 Z_260 PA11 g_aa PB11 g_bb ne_aa_bb (⟨by decide, by decide, ho2.1, ho2.2, hln.1, hln.2⟩)) e_260 rfl (lenOf pd___B_BIJJJIII_V rfl) (by decide) 0 (Nat.le_of_eq rfl) (by decide) (by decide) (by decide) N_260 ?_
  rintro _ T_262 h_262 locs_262 X_262 e_262 ⟨rfl, k_262, p_262f0, p_262f1⟩ N_262
  have Z_262 : n0 ≤ h_262.size := Nat.le_trans Z_260 k_262.1
  have f_263 := f_261.keep k_262 (ninS ne_mm_aa (ninS ne_mm_bb (nin0)))
  have PA12 : OAr Z h_262 aa .byte 24 (fun q => if q < 12 then (fun j => .int (own_data p2 p3 p4 (Int32.ofNat j))) q else .int (0 : Int32)) := p_262f0.congr (fun q _ => own_upd (fun j => .int (own_data p2 p3 p4 (Int32.ofNat j))) (.int (0 : Int32)) 11 q)
  have PB12 : OAr Z h_262 bb .byte 24 (fun q => if q < 12 then (fun j => .int (own_bv p2 p3 p4 (Int32.ofNat j) of1 of2 len)) q else .int (0 : Int32)) := p_262f1.congr (fun q _ => own_upd (fun j => .int (own_bv p2 p3 p4 (Int32.ofNat j) of1 of2 len)) (.int (0 : Int32)) 11 q)
  show OGo p e below s n0 _ _ _ (T_262.setTop (mkF m 382 #[.val (.long p0), .second, .val (.long p1), .second, .val (.long p2), .second, .val (.long p3), .second, .val (.long p4), .second, .val (.int p5), .val (.ref mm), .val (.int of1), .val (.int len), .val (.int of2), .val (.int ee), .val (.ref aa), .val (.ref bb), .unset, .unset, .unset, .unset, .unset, .unset, .unset, .unset, .unset, .unset] []))
  refine o_aload X_262 K at_382 384 rfl rfl rfl ?_
  refine o_aload X_262 K at_384 386 rfl rfl rfl ?_
  refine o_bipush X_262 K (12 : Int32) at_386 388 rfl rfl ?_
  refine o_lload X_262 K at_388 390 rfl rfl ?_
  refine o_lload X_262 K at_390 392 rfl rfl ?_
  refine o_lload X_262 K at_392 394 rfl rfl ?_
  refine o_iload X_262 K at_394 396 rfl rfl ?_
  refine o_iload X_262 K at_396 398 rfl rfl ?_
  refine o_iload X_262 K at_398 400 rfl rfl ?_
  refine o_invokestatic X_262 K at_400 403 rfl (w_1 hw) (w_2 hw) (w_3 hw) (w_4 hw) (by decide) [(.ref aa), (.ref bb), (.int (12 : Int32)), (.long p2), (.long p3), (.long p4), (.int of1), (.int of2), (.int len)] [] rfl  (c_put l Z a0 hw n0 aa bb (12 : Int32) 12 p2 p3 p4 of1 of2 len _ _ h_262 Z_262 PA12 g_aa PB12 g_bb ne_aa_bb (⟨by decide, by decide, ho2.1, ho2.2, hln.1, hln.2⟩)) e_262 rfl (lenOf pd___B_BIJJJIII_V rfl) (by decide) 0 (Nat.le_of_eq rfl) (by decide) (by decide) (by decide) N_262 ?_
  rintro _ T_264 h_264 locs_264 X_264 e_264 ⟨rfl, k_264, p_264f0, p_264f1⟩ N_264
  have Z_264 : n0 ≤ h_264.size := Nat.le_trans Z_262 k_264.1
  have f_265 := f_263.keep k_264 (ninS ne_mm_aa (ninS ne_mm_bb (nin0)))
  have PA13 : OAr Z h_264 aa .byte 24 (fun q => if q < 13 then (fun j => .int (own_data p2 p3 p4 (Int32.ofNat j))) q else .int (0 : Int32)) := p_264f0.congr (fun q _ => own_upd (fun j => .int (own_data p2 p3 p4 (Int32.ofNat j))) (.int (0 : Int32)) 12 q)
  have PB13 : OAr Z h_264 bb .byte 24 (fun q => if q < 13 then (fun j => .int (own_bv p2 p3 p4 (Int32.ofNat j) of1 of2 len)) q else .int (0 : Int32)) := p_264f1.congr (fun q _ => own_upd (fun j => .int (own_bv p2 p3 p4 (Int32.ofNat j) of1 of2 len)) (.int (0 : Int32)) 12 q)
  show OGo p e below s n0 _ _ _ (T_264.setTop (mkF m 403 #[.val (.long p0), .second, .val (.long p1), .second, .val (.long p2), .second, .val (.long p3), .second, .val (.long p4), .second, .val (.int p5), .val (.ref mm), .val (.int of1), .val (.int len), .val (.int of2), .val (.int ee), .val (.ref aa), .val (.ref bb), .unset, .unset, .unset, .unset, .unset, .unset, .unset, .unset, .unset, .unset] []))
  refine o_aload X_264 K at_403 405 rfl rfl rfl ?_
  refine o_aload X_264 K at_405 407 rfl rfl rfl ?_
  refine o_bipush X_264 K (13 : Int32) at_407 409 rfl rfl ?_
  refine o_lload X_264 K at_409 411 rfl rfl ?_
  refine o_lload X_264 K at_411 413 rfl rfl ?_
  refine o_lload X_264 K at_413 415 rfl rfl ?_
  refine o_iload X_264 K at_415 417 rfl rfl ?_
  refine o_iload X_264 K at_417 419 rfl rfl ?_
  refine o_iload X_264 K at_419 421 rfl rfl ?_
  refine o_invokestatic X_264 K at_421 424 rfl (w_1 hw) (w_2 hw) (w_3 hw) (w_4 hw) (by decide) [(.ref aa), (.ref bb), (.int (13 : Int32)), (.long p2), (.long p3), (.long p4), (.int of1), (.int of2), (.int len)] [] rfl  (c_put l Z a0 hw n0 aa bb (13 : Int32) 13 p2 p3 p4 of1 of2 len _ _ h_264 Z_264 PA13 g_aa PB13 g_bb ne_aa_bb (⟨by decide, by decide, ho2.1, ho2.2, hln.1, hln.2⟩)) e_264 rfl (lenOf pd___B_BIJJJIII_V rfl) (by decide) 0 (Nat.le_of_eq rfl) (by decide) (by decide) (by decide) N_264 ?_
  rintro _ T_266 h_266 locs_266 X_266 e_266 ⟨rfl, k_266, p_266f0, p_266f1⟩ N_266
  have Z_266 : n0 ≤ h_266.size := Nat.le_trans Z_264 k_266.1
  have f_267 := f_265.keep k_266 (ninS ne_mm_aa (ninS ne_mm_bb (nin0)))
  have PA14 : OAr Z h_266 aa .byte 24 (fun q => if q < 14 then (fun j => .int (own_data p2 p3 p4 (Int32.ofNat j))) q else .int (0 : Int32)) := p_266f0.congr (fun q _ => own_upd (fun j => .int (own_data p2 p3 p4 (Int32.ofNat j))) (.int (0 : Int32)) 13 q)
  have PB14 : OAr Z h_266 bb .byte 24 (fun q => if q < 14 then (fun j => .int (own_bv p2 p3 p4 (Int32.ofNat j) of1 of2 len)) q else .int (0 : Int32)) := p_266f1.congr (fun q _ => own_upd (fun j => .int (own_bv p2 p3 p4 (Int32.ofNat j) of1 of2 len)) (.int (0 : Int32)) 13 q)
  show OGo p e below s n0 _ _ _ (T_266.setTop (mkF m 424 #[.val (.long p0), .second, .val (.long p1), .second, .val (.long p2), .second, .val (.long p3), .second, .val (.long p4), .second, .val (.int p5), .val (.ref mm), .val (.int of1), .val (.int len), .val (.int of2), .val (.int ee), .val (.ref aa), .val (.ref bb), .unset, .unset, .unset, .unset, .unset, .unset, .unset, .unset, .unset, .unset] []))
  refine o_aload X_266 K at_424 426 rfl rfl rfl ?_
  refine o_aload X_266 K at_426 428 rfl rfl rfl ?_
  refine o_bipush X_266 K (14 : Int32) at_428 430 rfl rfl ?_
  refine o_lload X_266 K at_430 432 rfl rfl ?_
  refine o_lload X_266 K at_432 434 rfl rfl ?_
  refine o_lload X_266 K at_434 436 rfl rfl ?_
  refine o_iload X_266 K at_436 438 rfl rfl ?_
  refine o_iload X_266 K at_438 440 rfl rfl ?_
  refine o_iload X_266 K at_440 442 rfl rfl ?_
  refine o_invokestatic X_266 K at_442 445 rfl (w_1 hw) (w_2 hw) (w_3 hw) (w_4 hw) (by decide) [(.ref aa), (.ref bb), (.int (14 : Int32)), (.long p2), (.long p3), (.long p4), (.int of1), (.int of2), (.int len)] [] rfl  (c_put l Z a0 hw n0 aa bb (14 : Int32) 14 p2 p3 p4 of1 of2 len _ _ h_266 Z_266 PA14 g_aa PB14 g_bb ne_aa_bb (⟨by decide, by decide, ho2.1, ho2.2, hln.1, hln.2⟩)) e_266 rfl (lenOf pd___B_BIJJJIII_V rfl) (by decide) 0 (Nat.le_of_eq rfl) (by decide) (by decide) (by decide) N_266 ?_
  rintro _ T_268 h_268 locs_268 X_268 e_268 ⟨rfl, k_268, p_268f0, p_268f1⟩ N_268
  have Z_268 : n0 ≤ h_268.size := Nat.le_trans Z_266 k_268.1
  have f_269 := f_267.keep k_268 (ninS ne_mm_aa (ninS ne_mm_bb (nin0)))
  have PA15 : OAr Z h_268 aa .byte 24 (fun q => if q < 15 then (fun j => .int (own_data p2 p3 p4 (Int32.ofNat j))) q else .int (0 : Int32)) := p_268f0.congr (fun q _ => own_upd (fun j => .int (own_data p2 p3 p4 (Int32.ofNat j))) (.int (0 : Int32)) 14 q)
  have PB15 : OAr Z h_268 bb .byte 24 (fun q => if q < 15 then (fun j => .int (own_bv p2 p3 p4 (Int32.ofNat j) of1 of2 len)) q else .int (0 : Int32)) := p_268f1.congr (fun q _ => own_upd (fun j => .int (own_bv p2 p3 p4 (Int32.ofNat j) of1 of2 len)) (.int (0 : Int32)) 14 q)
  show OGo p e below s n0 _ _ _ (T_268.setTop (mkF m 445 #[.val (.long p0), .second, .val (.long p1), .second, .val (.long p2), .second, .val (.long p3), .second, .val (.long p4), .second, .val (.int p5), .val (.ref mm), .val (.int of1), .val (.int len), .val (.int of2), .val (.int ee), .val (.ref aa), .val (.ref bb), .unset, .unset, .unset, .unset, .unset, .unset, .unset, .unset, .unset, .unset] []))
  refine o_aload X_268 K at_445 447 rfl rfl rfl ?_
  refine o_aload X_268 K at_447 449 rfl rfl rfl ?_
  refine o_bipush X_268 K (15 : Int32) at_449 451 rfl rfl ?_
  refine o_lload X_268 K at_451 453 rfl rfl ?_
  refine o_lload X_268 K at_453 455 rfl rfl ?_
  refine o_lload X_268 K at_455 457 rfl rfl ?_
  refine o_iload X_268 K at_457 459 rfl rfl ?_
  refine o_iload X_268 K at_459 461 rfl rfl ?_
  refine o_iload X_268 K at_461 463 rfl rfl ?_
  refine o_invokestatic X_268 K at_463 466 rfl (w_1 hw) (w_2 hw) (w_3 hw) (w_4 hw) (by decide) [(.ref aa), (.ref bb), (.int (15 : Int32)), (.long p2), (.long p3), (.long p4), (.int of1), (.int of2), (.int len)] [] rfl  (c_put l Z a0 hw n0 aa bb (15 : Int32) 15 p2 p3 p4 of1 of2 len _ _ h_268 Z_268 PA15 g_aa PB15 g_bb ne_aa_bb (⟨by decide, by decide, ho2.1, ho2.2, hln.1, hln.2⟩)) e_268 rfl (lenOf pd___B_BIJJJIII_V rfl) (by decide) 0 (Nat.le_of_eq rfl) (by decide) (by decide) (by decide) N_268 ?_
  rintro _ T_270 h_270 locs_270 X_270 e_270 ⟨rfl, k_270, p_270f0, p_270f1⟩ N_270
  have Z_270 : n0 ≤ h_270.size := Nat.le_trans Z_268 k_270.1
  have f_271 := f_269.keep k_270 (ninS ne_mm_aa (ninS ne_mm_bb (nin0)))
  have PA16 : OAr Z h_270 aa .byte 24 (fun q => if q < 16 then (fun j => .int (own_data p2 p3 p4 (Int32.ofNat j))) q else .int (0 : Int32)) := p_270f0.congr (fun q _ => own_upd (fun j => .int (own_data p2 p3 p4 (Int32.ofNat j))) (.int (0 : Int32)) 15 q)
  have PB16 : OAr Z h_270 bb .byte 24 (fun q => if q < 16 then (fun j => .int (own_bv p2 p3 p4 (Int32.ofNat j) of1 of2 len)) q else .int (0 : Int32)) := p_270f1.congr (fun q _ => own_upd (fun j => .int (own_bv p2 p3 p4 (Int32.ofNat j) of1 of2 len)) (.int (0 : Int32)) 15 q)
  show OGo p e below s n0 _ _ _ (T_270.setTop (mkF m 466 #[.val (.long p0), .second, .val (.long p1), .second, .val (.long p2), .second, .val (.long p3), .second, .val (.long p4), .second, .val (.int p5), .val (.ref mm), .val (.int of1), .val (.int len), .val (.int of2), .val (.int ee), .val (.ref aa), .val (.ref bb), .unset, .unset, .unset, .unset, .unset, .unset, .unset, .unset, .unset, .unset] []))
  refine o_aload X_270 K at_466 468 rfl rfl rfl ?_
  refine o_aload X_270 K at_468 470 rfl rfl rfl ?_
  refine o_bipush X_270 K (16 : Int32) at_470 472 rfl rfl ?_
  refine o_lload X_270 K at_472 474 rfl rfl ?_
  refine o_lload X_270 K at_474 476 rfl rfl ?_
  refine o_lload X_270 K at_476 478 rfl rfl ?_
  refine o_iload X_270 K at_478 480 rfl rfl ?_
  refine o_iload X_270 K at_480 482 rfl rfl ?_
  refine o_iload X_270 K at_482 484 rfl rfl ?_
  refine o_invokestatic X_270 K at_484 487 rfl (w_1 hw) (w_2 hw) (w_3 hw) (w_4 hw) (by decide) [(.ref aa), (.ref bb), (.int (16 : Int32)), (.long p2), (.long p3), (.long p4), (.int of1), (.int of2), (.int len)] [] rfl  (c_put l Z a0 hw n0 aa bb (16 : Int32) 16 p2 p3 p4 of1 of2 len _ _ h_270 Z_270 PA16 g_aa PB16 g_bb ne_aa_bb (⟨by decide, by decide, ho2.1, ho2.2, hln.1, hln.2⟩)) e_270 rfl (lenOf pd___B_BIJJJIII_V rfl) (by decide) 0 (Nat.le_of_eq rfl) (by decide) (by decide) (by decide) N_270 ?_
  rintro _ T_272 h_272 locs_272 X_272 e_272 ⟨rfl, k_272, p_272f0, p_272f1⟩ N_272
  have Z_272 : n0 ≤ h_272.size := Nat.le_trans Z_270 k_272.1
  have f_273 := f_271.keep k_272 (ninS ne_mm_aa (ninS ne_mm_bb (nin0)))
  have PA17 : OAr Z h_272 aa .byte 24 (fun q => if q < 17 then (fun j => .int (own_data p2 p3 p4 (Int32.ofNat j))) q else .int (0 : Int32)) := p_272f0.congr (fun q _ => own_upd (fun j => .int (own_data p2 p3 p4 (Int32.ofNat j))) (.int (0 : Int32)) 16 q)
  have PB17 : OAr Z h_272 bb .byte 24 (fun q => if q < 17 then (fun j => .int (own_bv p2 p3 p4 (Int32.ofNat j) of1 of2 len)) q else .int (0 : Int32)) := p_272f1.congr (fun q _ => own_upd (fun j => .int (own_bv p2 p3 p4 (Int32.ofNat j) of1 of2 len)) (.int (0 : Int32)) 16 q)
  show OGo p e below s n0 _ _ _ (T_272.setTop (mkF m 487 #[.val (.long p0), .second, .val (.long p1), .second, .val (.long p2), .second, .val (.long p3), .second, .val (.long p4), .second, .val (.int p5), .val (.ref mm), .val (.int of1), .val (.int len), .val (.int of2), .val (.int ee), .val (.ref aa), .val (.ref bb), .unset, .unset, .unset, .unset, .unset, .unset, .unset, .unset, .unset, .unset] []))
  refine o_aload X_272 K at_487 489 rfl rfl rfl ?_
  refine o_aload X_272 K at_489 491 rfl rfl rfl ?_
  refine o_bipush X_272 K (17 : Int32) at_491 493 rfl rfl ?_
  refine o_lload X_272 K at_493 495 rfl rfl ?_
  refine o_lload X_272 K at_495 497 rfl rfl ?_
  refine o_lload X_272 K at_497 499 rfl rfl ?_
  refine o_iload X_272 K at_499 501 rfl rfl ?_
  refine o_iload X_272 K at_501 503 rfl rfl ?_
  refine o_iload X_272 K at_503 505 rfl rfl ?_
  refine o_invokestatic X_272 K at_505 508 rfl (w_1 hw) (w_2 hw) (w_3 hw) (w_4 hw) (by decide) [(.ref aa), (.ref bb), (.int (17 : Int32)), (.long p2), (.long p3), (.long p4), (.int of1), (.int of2), (.int len)] [] rfl  (c_put l Z a0 hw n0 aa bb (17 : Int32) 17 p2 p3 p4 of1 of2 len _ _ h_272 Z_272 PA17 g_aa PB17 g_bb ne_aa_bb (⟨by decide, by decide, ho2.1, ho2.2, hln.1, hln.2⟩)) e_272 rfl (lenOf pd___B_BIJJJIII_V rfl) (by decide) 0 (Nat.le_of_eq rfl) (by decide) (by decide) (by decide) N_272 ?_
  rintro _ T_274 h_274 locs_274 X_274 e_274 ⟨rfl, k_274, p_274f0, p_274f1⟩ N_274
  have Z_274 : n0 ≤ h_274.size := Nat.le_trans Z_272 k_274.1
  have f_275 := f_273.keep k_274 (ninS ne_mm_aa (ninS ne_mm_bb (nin0)))
  have PA18 : OAr Z h_274 aa .byte 24 (fun q => if q < 18 then (fun j => .int (own_data p2 p3 p4 (Int32.ofNat j))) q else .int (0 : Int32)) := p_274f0.congr (fun q _ => own_upd (fun j => .int (own_data p2 p3 p4 (Int32.ofNat j))) (.int (0 : Int32)) 17 q)
  have PB18 : OAr Z h_274 bb .byte 24 (fun q => if q < 18 then (fun j => .int (own_bv p2 p3 p4 (Int32.ofNat j) of1 of2 len)) q else .int (0 : Int32)) := p_274f1.congr (fun q _ => own_upd (fun j => .int (own_bv p2 p3 p4 (Int32.ofNat j) of1 of2 len)) (.int (0 : Int32)) 17 q)
  show OGo p e below s n0 _ _ _ (T_274.setTop (mkF m 508 #[.val (.long p0), .second, .val (.long p1), .second, .val (.long p2), .second, .val (.long p3), .second, .val (.long p4), .second, .val (.int p5), .val (.ref mm), .val (.int of1), .val (.int len), .val (.int of2), .val (.int ee), .val (.ref aa), .val (.ref bb), .unset, .unset, .unset, .unset, .unset, .unset, .unset, .unset, .unset, .unset] []))
  refine o_aload X_274 K at_508 510 rfl rfl rfl ?_
  refine o_aload X_274 K at_510 512 rfl rfl rfl ?_
  refine o_bipush X_274 K (18 : Int32) at_512 514 rfl rfl ?_
  refine o_lload X_274 K at_514 516 rfl rfl ?_
  refine o_lload X_274 K at_516 518 rfl rfl ?_
  refine o_lload X_274 K at_518 520 rfl rfl ?_
  refine o_iload X_274 K at_520 522 rfl rfl ?_
  refine o_iload X_274 K at_522 524 rfl rfl ?_
  refine o_iload X_274 K at_524 526 rfl rfl ?_
  refine o_invokestatic X_274 K at_526 529 rfl (w_1 hw) (w_2 hw) (w_3 hw) (w_4 hw) (by decide) [(.ref aa), (.ref bb), (.int (18 : Int32)), (.long p2), (.long p3), (.long p4), (.int of1), (.int of2), (.int len)] [] rfl  (c_put l Z a0 hw n0 aa bb (18 : Int32) 18 p2 p3 p4 of1 of2 len _ _ h_274 Z_274 PA18 g_aa PB18 g_bb ne_aa_bb (⟨by decide, by decide, ho2.1, ho2.2, hln.1, hln.2⟩)) e_274 rfl (lenOf pd___B_BIJJJIII_V rfl) (by decide) 0 (Nat.le_of_eq rfl) (by decide) (by decide) (by decide) N_274 ?_
  rintro _ T_276 h_276 locs_276 X_276 e_276 ⟨rfl, k_276, p_276f0, p_276f1⟩ N_276
  have Z_276 : n0 ≤ h_276.size := Nat.le_trans Z_274 k_276.1
  have f_277 := f_275.keep k_276 (ninS ne_mm_aa (ninS ne_mm_bb (nin0)))
  have PA19 : OAr Z h_276 aa .byte 24 (fun q => if q < 19 then (fun j => .int (own_data p2 p3 p4 (Int32.ofNat j))) q else .int (0 : Int32)) := p_276f0.congr (fun q _ => own_upd (fun j => .int (own_data p2 p3 p4 (Int32.ofNat j))) (.int (0 : Int32)) 18 q)
  have PB19 : OAr Z h_276 bb .byte 24 (fun q => if q < 19 then (fun j => .int (own_bv p2 p3 p4 (Int32.ofNat j) of1 of2 len)) q else .int (0 : Int32)) := p_276f1.congr (fun q _ => own_upd (fun j => .int (own_bv p2 p3 p4 (Int32.ofNat j) of1 of2 len)) (.int (0 : Int32)) 18 q)
  show OGo p e below s n0 _ _ _ (T_276.setTop (mkF m 529 #[.val (.long p0), .second, .val (.long p1), .second, .val (.long p2), .second, .val (.long p3), .second, .val (.long p4), .second, .val (.int p5), .val (.ref mm), .val (.int of1), .val (.int len), .val (.int of2), .val (.int ee), .val (.ref aa), .val (.ref bb), .unset, .unset, .unset, .unset, .unset, .unset, .unset, .unset, .unset, .unset] []))
  refine o_aload X_276 K at_529 531 rfl rfl rfl ?_
  refine o_aload X_276 K at_531 533 rfl rfl rfl ?_
  refine o_bipush X_276 K (19 : Int32) at_533 535 rfl rfl ?_
  refine o_lload X_276 K at_535 537 rfl rfl ?_
  refine o_lload X_276 K at_537 539 rfl rfl ?_
  refine o_lload X_276 K at_539 541 rfl rfl ?_
  refine o_iload X_276 K at_541 543 rfl rfl ?_
  refine o_iload X_276 K at_543 545 rfl rfl ?_
  refine o_iload X_276 K at_545 547 rfl rfl ?_
  refine o_invokestatic X_276 K at_547 550 rfl (w_1 hw) (w_2 hw) (w_3 hw) (w_4 hw) (by decide) [(.ref aa), (.ref bb), (.int (19 : Int32)), (.long p2), (.long p3), (.long p4), (.int of1), (.int of2), (.int len)] [] rfl  (c_put l Z a0 hw n0 aa bb (19 : Int32) 19 p2 p3 p4 of1 of2 len _ _ h_276 Z_276 PA19 g_aa PB19 g_bb ne_aa_bb (⟨by decide, by decide, ho2.1, ho2.2, hln.1, hln.2⟩)) e_276 rfl (lenOf pd___B_BIJJJIII_V rfl) (by decide) 0 (Nat.le_of_eq rfl) (by decide) (by decide) (by decide) N_276 ?_
  rintro _ T_278 h_278 locs_278 X_278 e_278 ⟨rfl, k_278, p_278f0, p_278f1⟩ N_278
  have Z_278 : n0 ≤ h_278.size := Nat.le_trans Z_276 k_278.1
  have f_279 := f_277.keep k_278 (ninS ne_mm_aa (ninS ne_mm_bb (nin0)))
  have PA20 : OAr Z h_278 aa .byte 24 (fun q => if q < 20 then (fun j => .int (own_data p2 p3 p4 (Int32.ofNat j))) q else .int (0 : Int32)) := p_278f0.congr (fun q _ => own_upd (fun j => .int (own_data p2 p3 p4 (Int32.ofNat j))) (.int (0 : Int32)) 19 q)
  have PB20 : OAr Z h_278 bb .byte 24 (fun q => if q < 20 then (fun j => .int (own_bv p2 p3 p4 (Int32.ofNat j) of1 of2 len)) q else .int (0 : Int32)) := p_278f1.congr (fun q _ => own_upd (fun j => .int (own_bv p2 p3 p4 (Int32.ofNat j) of1 of2 len)) (.int (0 : Int32)) 19 q)
  show OGo p e below s n0 _ _ _ (T_278.setTop (mkF m 550 #[.val (.long p0), .second, .val (.long p1), .second, .val (.long p2), .second, .val (.long p3), .second, .val (.long p4), .second, .val (.int p5), .val (.ref mm), .val (.int of1), .val (.int len), .val (.int of2), .val (.int ee), .val (.ref aa), .val (.ref bb), .unset, .unset, .unset, .unset, .unset, .unset, .unset, .unset, .unset, .unset] []))
  refine o_aload X_278 K at_550 552 rfl rfl rfl ?_
  refine o_aload X_278 K at_552 554 rfl rfl rfl ?_
  refine o_bipush X_278 K (20 : Int32) at_554 556 rfl rfl ?_
  refine o_lload X_278 K at_556 558 rfl rfl ?_
  refine o_lload X_278 K at_558 560 rfl rfl ?_
  refine o_lload X_278 K at_560 562 rfl rfl ?_
  refine o_iload X_278 K at_562 564 rfl rfl ?_
  refine o_iload X_278 K at_564 566 rfl rfl ?_
  refine o_iload X_278 K at_566 568 rfl rfl ?_
  refine o_invokestatic X_278 K at_568 571 rfl (w_1 hw) (w_2 hw) (w_3 hw) (w_4 hw) (by decide) [(.ref aa), (.ref bb), (.int (20 : Int32)), (.long p2), (.long p3), (.long p4), (.int of1), (.int of2), (.int len)] [] rfl  (c_put l Z a0 hw n0 aa bb (20 : Int32) 20 p2 p3 p4 of1 of2 len _ _ h_278 Z_278 PA20 g_aa PB20 g_bb ne_aa_bb (⟨by decide, by decide, ho2.1, ho2.2, hln.1, hln.2⟩)) e_278 rfl (lenOf pd___B_BIJJJIII_V rfl) (by decide) 0 (Nat.le_of_eq rfl) (by decide) (by decide) (by decide) N_278 ?_
  rintro _ T_280 h_280 locs_280 X_280 e_280 ⟨rfl, k_280, p_280f0, p_280f1⟩ N_280
  have Z_280 : n0 ≤ h_280.size := Nat.le_trans Z_278 k_280.1
  have f_281 := f_279.keep k_280 (ninS ne_mm_aa (ninS ne_mm_bb (nin0)))
  have PA21 : OAr Z h_280 aa .byte 24 (fun q => if q < 21 then (fun j => .int (own_data p2 p3 p4 (Int32.ofNat j))) q else .int (0 : Int32)) := p_280f0.congr (fun q _ => own_upd (fun j => .int (own_data p2 p3 p4 (Int32.ofNat j))) (.int (0 : Int32)) 20 q)
  have PB21 : OAr Z h_280 bb .byte 24 (fun q => if q < 21 then (fun j => .int (own_bv p2 p3 p4 (Int32.ofNat j) of1 of2 len)) q else .int (0 : Int32)) := p_280f1.congr (fun q _ => own_upd (fun j => .int (own_bv p2 p3 p4 (Int32.ofNat j) of1 of2 len)) (.int (0 : Int32)) 20 q)
  show OGo p e below s n0 _ _ _ (T_280.setTop (mkF m 571 #[.val (.long p0), .second, .val (.long p1), .second, .val (.long p2), .second, .val (.long p3), .second, .val (.long p4), .second, .val (.int p5), .val (.ref mm), .val (.int of1), .val (.int len), .val (.int of2), .val (.int ee), .val (.ref aa), .val (.ref bb), .unset, .unset, .unset, .unset, .unset, .unset, .unset, .unset, .unset, .unset] []))
  refine o_aload X_280 K at_571 573 rfl rfl rfl ?_
  refine o_aload X_280 K at_573 575 rfl rfl rfl ?_
  refine o_bipush X_280 K (21 : Int32) at_575 577 rfl rfl ?_
  refine o_lload X_280 K at_577 579 rfl rfl ?_
  refine o_lload X_280 K at_579 581 rfl rfl ?_
  refine o_lload X_280 K at_581 583 rfl rfl ?_
  refine o_iload X_280 K at_583 585 rfl rfl ?_
  refine o_iload X_280 K at_585 587 rfl rfl ?_
  refine o_iload X_280 K at_587 589 rfl rfl ?_
  refine o_invokestatic X_280 K at_589 592 rfl (w_1 hw) (w_2 hw) (w_3 hw) (w_4 hw) (by decide) [(.ref aa), (.ref bb), (.int (21 : Int32)), (.long p2), (.long p3), (.long p4), (.int of1), (.int of2), (.int len)] [] rfl  (c_put l Z a0 hw n0 aa bb (21 : Int32) 21 p2 p3 p4 of1 of2 len _ _ h_280 Z_280 PA21 g_aa PB21 g_bb ne_aa_bb (⟨by decide, by decide, ho2.1, ho2.2, hln.1, hln.2⟩)) e_280 rfl (lenOf pd___B_BIJJJIII_V rfl) (by decide) 0 (Nat.le_of_eq rfl) (by decide) (by decide) (by decide) N_280 ?_
  rintro _ T_282 h_282 locs_282 X_282 e_282 ⟨rfl, k_282, p_282f0, p_282f1⟩ N_282
  have Z_282 : n0 ≤ h_282.size := Nat.le_trans Z_280 k_282.1
  have f_283 := f_281.keep k_282 (ninS ne_mm_aa (ninS ne_mm_bb (nin0)))
  have PA22 : OAr Z h_282 aa .byte 24 (fun q => if q < 22 then (fun j => .int (own_data p2 p3 p4 (Int32.ofNat j))) q else .int (0 : Int32)) := p_282f0.congr (fun q _ => own_upd (fun j => .int (own_data p2 p3 p4 (Int32.ofNat j))) (.int (0 : Int32)) 21 q)
  have PB22 : OAr Z h_282 bb .byte 24 (fun q => if q < 22 then (fun j => .int (own_bv p2 p3 p4 (Int32.ofNat j) of1 of2 len)) q else .int (0 : Int32)) := p_282f1.congr (fun q _ => own_upd (fun j => .int (own_bv p2 p3 p4 (Int32.ofNat j) of1 of2 len)) (.int (0 : Int32)) 21 q)
  show OGo p e below s n0 _ _ _ (T_282.setTop (mkF m 592 #[.val (.long p0), .second, .val (.long p1), .second, .val (.long p2), .second, .val (.long p3), .second, .val (.long p4), .second, .val (.int p5), .val (.ref mm), .val (.int of1), .val (.int len), .val (.int of2), .val (.int ee), .val (.ref aa), .val (.ref bb), .unset, .unset, .unset, .unset, .unset, .unset, .unset, .unset, .unset, .unset] []))
  refine o_aload X_282 K at_592 594 rfl rfl rfl ?_
  refine o_aload X_282 K at_594 596 rfl rfl rfl ?_
  refine o_bipush X_282 K (22 : Int32) at_596 598 rfl rfl ?_
  refine o_lload X_282 K at_598 600 rfl rfl ?_
  refine o_lload X_282 K at_600 602 rfl rfl ?_
  refine o_lload X_282 K at_602 604 rfl rfl ?_
  refine o_iload X_282 K at_604 606 rfl rfl ?_
  refine o_iload X_282 K at_606 608 rfl rfl ?_
  refine o_iload X_282 K at_608 610 rfl rfl ?_
  refine o_invokestatic X_282 K at_610 613 rfl (w_1 hw) (w_2 hw) (w_3 hw) (w_4 hw) (by decide) [(.ref aa), (.ref bb), (.int (22 : Int32)), (.long p2), (.long p3), (.long p4), (.int of1), (.int of2), (.int len)] [] rfl  (c_put l Z a0 hw n0 aa bb (22 : Int32) 22 p2 p3 p4 of1 of2 len _ _ h_282 Z_282 PA22 g_aa PB22 g_bb ne_aa_bb (⟨by decide, by decide, ho2.1, ho2.2, hln.1, hln.2⟩)) e_282 rfl (lenOf pd___B_BIJJJIII_V rfl) (by decide) 0 (Nat.le_of_eq rfl) (by decide) (by decide) (by decide) N_282 ?_
  rintro _ T_284 h_284 locs_284 X_284 e_284 ⟨rfl, k_284, p_284f0, p_284f1⟩ N_284
  have Z_284 : n0 ≤ h_284.size := Nat.le_trans Z_282 k_284.1
  have f_285 := f_283.keep k_284 (ninS ne_mm_aa (ninS ne_mm_bb (nin0)))
  have PA23 : OAr Z h_284 aa .byte 24 (fun q => if q < 23 then (fun j => .int (own_data p2 p3 p4 (Int32.ofNat j))) q else .int (0 : Int32)) := p_284f0.congr (fun q _ => own_upd (fun j => .int (own_data p2 p3 p4 (Int32.ofNat j))) (.int (0 : Int32)) 22 q)
  have PB23 : OAr Z h_284 bb .byte 24 (fun q => if q < 23 then (fun j => .int (own_bv p2 p3 p4 (Int32.ofNat j) of1 of2 len)) q else .int (0 : Int32)) := p_284f1.congr (fun q _ => own_upd (fun j => .int (own_bv p2 p3 p4 (Int32.ofNat j) of1 of2 len)) (.int (0 : Int32)) 22 q)
  show OGo p e below s n0 _ _ _ (T_284.setTop (mkF m 613 #[.val (.long p0), .second, .val (.long p1), .second, .val (.long p2), .second, .val (.long p3), .second, .val (.long p4), .second, .val (.int p5), .val (.ref mm), .val (.int of1), .val (.int len), .val (.int of2), .val (.int ee), .val (.ref aa), .val (.ref bb), .unset, .unset, .unset, .unset, .unset, .unset, .unset, .unset, .unset, .unset] []))
  refine o_aload X_284 K at_613 615 rfl rfl rfl ?_
  refine o_aload X_284 K at_615 617 rfl rfl rfl ?_
  refine o_bipush X_284 K (23 : Int32) at_617 619 rfl rfl ?_
  refine o_lload X_284 K at_619 621 rfl rfl ?_
  refine o_lload X_284 K at_621 623 rfl rfl ?_
  refine o_lload X_284 K at_623 625 rfl rfl ?_
  refine o_iload X_284 K at_625 627 rfl rfl ?_
  refine o_iload X_284 K at_627 629 rfl rfl ?_
  refine o_iload X_284 K at_629 631 rfl rfl ?_
  refine o_invokestatic X_284 K at_631 634 rfl (w_1 hw) (w_2 hw) (w_3 hw) (w_4 hw) (by decide) [(.ref aa), (.ref bb), (.int (23 : Int32)), (.long p2), (.long p3), (.long p4), (.int of1), (.int of2), (.int len)] [] rfl  (c_put l Z a0 hw n0 aa bb (23 : Int32) 23 p2 p3 p4 of1 of2 len _ _ h_284 Z_284 PA23 g_aa PB23 g_bb ne_aa_bb (⟨by decide, by decide, ho2.1, ho2.2, hln.1, hln.2⟩)) e_284 rfl (lenOf pd___B_BIJJJIII_V rfl) (by decide) 0 (Nat.le_of_eq rfl) (by decide) (by decide) (by decide) N_284 ?_
  rintro _ T_286 h_286 locs_286 X_286 e_286 ⟨rfl, k_286, p_286f0, p_286f1⟩ N_286
  have Z_286 : n0 ≤ h_286.size := Nat.le_trans Z_284 k_286.1
  have f_287 := f_285.keep k_286 (ninS ne_mm_aa (ninS ne_mm_bb (nin0)))
  have PA24 : OAr Z h_286 aa .byte 24 (fun q => if q < 24 then (fun j => .int (own_data p2 p3 p4 (Int32.ofNat j))) q else .int (0 : Int32)) := p_286f0.congr (fun q _ => own_upd (fun j => .int (own_data p2 p3 p4 (Int32.ofNat j))) (.int (0 : Int32)) 23 q)
  have PB24 : OAr Z h_286 bb .byte 24 (fun q => if q < 24 then (fun j => .int (own_bv p2 p3 p4 (Int32.ofNat j) of1 of2 len)) q else .int (0 : Int32)) := p_286f1.congr (fun q _ => own_upd (fun j => .int (own_bv p2 p3 p4 (Int32.ofNat j) of1 of2 len)) (.int (0 : Int32)) 23 q)
  show OGo p e below s n0 _ _ _ (T_286.setTop (mkF m 634 #[.val (.long p0), .second, .val (.long p1), .second, .val (.long p2), .second, .val (.long p3), .second, .val (.long p4), .second, .val (.int p5), .val (.ref mm), .val (.int of1), .val (.int len), .val (.int of2), .val (.int ee), .val (.ref aa), .val (.ref bb), .unset, .unset, .unset, .unset, .unset, .unset, .unset, .unset, .unset, .unset] []))
  have QA : OAr Z h_286 aa .byte 24 (fun j => .int (own_data p2 p3 p4 (Int32.ofNat j))) := PA24.congr (fun q hq => by rw [if_pos hq])
  have QB : OAr Z h_286 bb .byte 24 (fun j => .int (own_bv p2 p3 p4 (Int32.ofNat j) of1 of2 len)) := PB24.congr (fun q hq => by rw [if_pos hq])
  have hs1 : (of1 + len).toInt = of1.toInt + len.toInt := by have q1 := c_iadd of1 len; have q2 := rng32 (of1 + len); omega
  have hs2 : (of2 + len).toInt = of2.toInt + len.toInt := by have q1 := c_iadd of2 len; have q2 := rng32 (of2 + len); omega
  have hd_of1 : (of1 + len) - of1 = len := by rw [← Int32.toInt_inj]; have q1 := c_isub (of1 + len) of1; have q2 := rng32 ((of1 + len) - of1); omega
  have hd_of2 : (of2 + len) - of2 = len := by rw [← Int32.toInt_inj]; have q1 := c_isub (of2 + len) of2; have q2 := rng32 ((of2 + len) - of2); omega
  refine o_new X_286 K at_634 637 rfl (w_8 hw) (w_9 hw) (w_10 hw) e_286 (by decide) (by decide) ?_
  intro T_288 h_288 s1 g_288 X_288 e_288 E_288 B_288 D_288
  have Z_288 : n0 ≤ h_288.size := Nat.le_trans Z_286 E_288.1
  have f_289 := f_287.ext E_288
  have f_290 := QA.ext E_288
  have f_291 := QB.ext E_288
  have g_s1 : n0 ≤ s1 := by rw [g_288]; exact Z_286
  have ne_mm_s1 : mm ≠ s1 := by rw [g_288]; exact Nat.ne_of_lt f_287.lt
  have ne_aa_s1 : aa ≠ s1 := by rw [g_288]; exact Nat.ne_of_lt QA.lt
  have ne_bb_s1 : bb ≠ s1 := by rw [g_288]; exact Nat.ne_of_lt QB.lt
  have F_key0__288 : Fld Z h_288 s1 "com/example/planwright/planwright/census/SipHash" "key0" "J" (.long (0 : Int64)) := D_288 (Or.inr (w_20 hw)) (ty := .long) (by decide)
  have F_key1__288 : Fld Z h_288 s1 "com/example/planwright/planwright/census/SipHash" "key1" "J" (.long (0 : Int64)) := D_288 (Or.inr (w_22 hw)) (ty := .long) (by decide)
  have F_v0__288 : Fld Z h_288 s1 "com/example/planwright/planwright/census/SipHash" "v0" "J" (.long (0 : Int64)) := D_288 (Or.inl (w_30 hw)) (ty := .long) (by decide)
  have F_v1__288 : Fld Z h_288 s1 "com/example/planwright/planwright/census/SipHash" "v1" "J" (.long (0 : Int64)) := D_288 (Or.inl (w_33 hw)) (ty := .long) (by decide)
  have F_v2__288 : Fld Z h_288 s1 "com/example/planwright/planwright/census/SipHash" "v2" "J" (.long (0 : Int64)) := D_288 (Or.inl (w_36 hw)) (ty := .long) (by decide)
  have F_v3__288 : Fld Z h_288 s1 "com/example/planwright/planwright/census/SipHash" "v3" "J" (.long (0 : Int64)) := D_288 (Or.inl (w_39 hw)) (ty := .long) (by decide)
  refine o_dup X_288 K at_637 638 rfl rfl ?_
  refine o_ldc2J X_288 K at_638 641 rfl (w_11 hw) ?_
  refine o_ldc2J X_288 K at_641 644 rfl (w_12 hw) ?_
  refine o_invokespecial X_288 K at_644 647 rfl rfl (w_13 hw) (w_14 hw) (w_10 hw) (w_15 hw) (by decide) [(.long (506097522914230528 : Int64)), (.long (1084818905618843912 : Int64))] [(.ref s1)] rfl  (c_init l Z a0 hw n0 s1 (506097522914230528 : Int64) (1084818905618843912 : Int64) h_288 Z_288 ⟨B_288, F_key0__288, F_key1__288, F_v0__288, F_v1__288, F_v2__288, F_v3__288⟩ g_s1) e_288 rfl (lenOf pd__JJ_V rfl) (by decide) 1 (Nat.le_of_eq rfl) (by decide) (by decide) (by decide) N_286 ?_
  rintro _ T_292 h_292 locs_292 X_292 e_292 ⟨rfl, k_292, S_292⟩ N_292
  have Z_292 : n0 ≤ h_292.size := Nat.le_trans Z_288 k_292.1
  have f_293 := f_289.keep k_292 (ninS ne_mm_s1 (nin0))
  have f_294 := f_290.keep k_292 (ninS ne_aa_s1 (nin0))
  have f_295 := f_291.keep k_292 (ninS ne_bb_s1 (nin0))
  have f_296 := Exa.keep B_288 k_292
  obtain ⟨Eo_292, Fo_292_key0, Fo_292_key1, Fo_292_v0, Fo_292_v1, Fo_292_v2, Fo_292_v3⟩ := S_292
  show OGo p e below s n0 _ _ _ (T_292.setTop (mkF m 647 #[.val (.long p0), .second, .val (.long p1), .second, .val (.long p2), .second, .val (.long p3), .second, .val (.long p4), .second, .val (.int p5), .val (.ref mm), .val (.int of1), .val (.int len), .val (.int of2), .val (.int ee), .val (.ref aa), .val (.ref bb), .unset, .unset, .unset, .unset, .unset, .unset, .unset, .unset, .unset, .unset] [(.ref s1)]))
  refine o_astore X_292 K at_647 649 rfl #[.val (.long p0), .second, .val (.long p1), .second, .val (.long p2), .second, .val (.long p3), .second, .val (.long p4), .second, .val (.int p5), .val (.ref mm), .val (.int of1), .val (.int len), .val (.int of2), .val (.int ee), .val (.ref aa), .val (.ref bb), .val (.ref s1), .unset, .unset, .unset, .unset, .unset, .unset, .unset, .unset, .unset] rfl rfl ?_
  refine o_aload X_292 K at_649 651 rfl rfl rfl ?_
  refine o_aload X_292 K at_651 653 rfl rfl rfl ?_
  refine o_iconst X_292 K (0 : Int32) at_653 654 rfl rfl ?_
  refine o_bipush X_292 K (15 : Int32) at_654 656 rfl rfl ?_
  refine o_invokevirtual X_292 K at_656 659 rfl (w_23 hw) (w_24 hw) (w_26 hw) (w_25 hw) (w_10 hw) (w_27 hw) (by decide) Eo_292 [(.ref mm), (.int (0 : Int32)), (.int (15 : Int32))] [] rfl  (c_hash l Z a0 hw n0 s1 mm (506097522914230528 : Int64) (1084818905618843912 : Int64) ((0 : Int64), (0 : Int64), (0 : Int64), (0 : Int64)) (fun j => Int32.ofNat j) 15 (0 : Int32) (15 : Int32) (15 : Int32) h_292 Z_292 ⟨Eo_292, Fo_292_key0, Fo_292_key1, Fo_292_v0, Fo_292_v1, Fo_292_v2, Fo_292_v3⟩ g_s1 f_293 ne_mm_s1 (by decide)) e_292 rfl (lenOf pd___BII_J rfl) (by decide) 0 (Nat.le_of_eq rfl) (by decide) (by decide) (by decide) N_292 ?_
  rintro _ T_297 h_297 locs_297 X_297 e_297 ⟨rfl, k_297, tt_297, S_297⟩ N_297
  have Z_297 : n0 ≤ h_297.size := Nat.le_trans Z_292 k_297.1
  have f_298 := f_293.keep k_297 (ninS ne_mm_s1 (nin0))
  have f_299 := f_294.keep k_297 (ninS ne_aa_s1 (nin0))
  have f_300 := f_295.keep k_297 (ninS ne_bb_s1 (nin0))
  have f_301 := Exa.keep Eo_292 k_297
  obtain ⟨Eo_297, Fo_297_key0, Fo_297_key1, Fo_297_v0, Fo_297_v1, Fo_297_v2, Fo_297_v3⟩ := S_297
  show OGo p e below s n0 _ _ _ (T_297.setTop (mkF m 659 #[.val (.long p0), .second, .val (.long p1), .second, .val (.long p2), .second, .val (.long p3), .second, .val (.long p4), .second, .val (.int p5), .val (.ref mm), .val (.int of1), .val (.int len), .val (.int of2), .val (.int ee), .val (.ref aa), .val (.ref bb), .val (.ref s1), .unset, .unset, .unset, .unset, .unset, .unset, .unset, .unset, .unset] [(.long (own_hash (506097522914230528 : Int64) (1084818905618843912 : Int64) (fun j => Int32.ofNat j) (0 : Int32).toInt.toNat (15 : Int32)))]))
  obtain ⟨h15, h_h15⟩ : ∃ z_ : Int64, z_ = (own_hash (506097522914230528 : Int64) (1084818905618843912 : Int64) (fun j => Int32.ofNat j) (0 : Int32).toInt.toNat (15 : Int32)) := ⟨_, rfl⟩
  refine o_lstore X_297 K at_659 661 rfl #[.val (.long p0), .second, .val (.long p1), .second, .val (.long p2), .second, .val (.long p3), .second, .val (.long p4), .second, .val (.int p5), .val (.ref mm), .val (.int of1), .val (.int len), .val (.int of2), .val (.int ee), .val (.ref aa), .val (.ref bb), .val (.ref s1), .val (.long h15), .second, .unset, .unset, .unset, .unset, .unset, .unset, .unset] h_h15.symm rfl ?_
  refine o_aload X_297 K at_661 663 rfl rfl rfl ?_
  refine o_aload X_297 K at_663 665 rfl rfl rfl ?_
  refine o_iload X_297 K at_665 667 rfl rfl ?_
  refine o_iload X_297 K at_667 669 rfl rfl ?_
  refine o_invokevirtual X_297 K at_669 672 rfl (w_23 hw) (w_24 hw) (w_26 hw) (w_25 hw) (w_10 hw) (w_27 hw) (by decide) Eo_297 [(.ref mm), (.int ee), (.int ee)] [] rfl  (c_hash l Z a0 hw n0 s1 mm (506097522914230528 : Int64) (1084818905618843912 : Int64) tt_297 (fun j => Int32.ofNat j) 15 ee ee (0 : Int32) h_297 Z_297 ⟨Eo_297, Fo_297_key0, Fo_297_key1, Fo_297_v0, Fo_297_v1, Fo_297_v2, Fo_297_v3⟩ g_s1 f_298 ne_mm_s1 (⟨hee.1, by have q : (0 : Int32).toInt = 0 := rfl; omega, by decide, by omega, by decide, Int32.sub_self _⟩)) e_297 rfl (lenOf pd___BII_J rfl) (by decide) 0 (Nat.le_of_eq rfl) (by decide) (by decide) (by decide) N_297 ?_
  rintro _ T_302 h_302 locs_302 X_302 e_302 ⟨rfl, k_302, tt_302, S_302⟩ N_302
  have Z_302 : n0 ≤ h_302.size := Nat.le_trans Z_297 k_302.1
  have f_303 := f_298.keep k_302 (ninS ne_mm_s1 (nin0))
  have f_304 := f_299.keep k_302 (ninS ne_aa_s1 (nin0))
  have f_305 := f_300.keep k_302 (ninS ne_bb_s1 (nin0))
  have f_306 := Exa.keep Eo_297 k_302
  obtain ⟨Eo_302, Fo_302_key0, Fo_302_key1, Fo_302_v0, Fo_302_v1, Fo_302_v2, Fo_302_v3⟩ := S_302
  show OGo p e below s n0 _ _ _ (T_302.setTop (mkF m 672 #[.val (.long p0), .second, .val (.long p1), .second, .val (.long p2), .second, .val (.long p3), .second, .val (.long p4), .second, .val (.int p5), .val (.ref mm), .val (.int of1), .val (.int len), .val (.int of2), .val (.int ee), .val (.ref aa), .val (.ref bb), .val (.ref s1), .val (.long h15), .second, .unset, .unset, .unset, .unset, .unset, .unset, .unset] [(.long (own_hash (506097522914230528 : Int64) (1084818905618843912 : Int64) (fun j => Int32.ofNat j) ee.toInt.toNat (0 : Int32)))]))
  obtain ⟨hh0, h_hh0⟩ : ∃ z_ : Int64, z_ = (own_hash (506097522914230528 : Int64) (1084818905618843912 : Int64) (fun j => Int32.ofNat j) ee.toInt.toNat (0 : Int32)) := ⟨_, rfl⟩
  refine o_lstore X_302 K at_672 674 rfl #[.val (.long p0), .second, .val (.long p1), .second, .val (.long p2), .second, .val (.long p3), .second, .val (.long p4), .second, .val (.int p5), .val (.ref mm), .val (.int of1), .val (.int len), .val (.int of2), .val (.int ee), .val (.ref aa), .val (.ref bb), .val (.ref s1), .val (.long h15), .second, .val (.long hh0), .second, .unset, .unset, .unset, .unset, .unset] h_hh0.symm rfl ?_
  refine o_new X_302 K at_674 677 rfl (w_8 hw) (w_9 hw) (w_10 hw) e_302 (by decide) (by decide) ?_
  intro T_307 h_307 s2 g_307 X_307 e_307 E_307 B_307 D_307
  have Z_307 : n0 ≤ h_307.size := Nat.le_trans Z_302 E_307.1
  have f_308 := f_303.ext E_307
  have f_309 := f_304.ext E_307
  have f_310 := f_305.ext E_307
  have f_311 := Exa.ext E_307 Eo_302
  have f_312 := Fld.ext E_307 Fo_302_key0
  have f_313 := Fld.ext E_307 Fo_302_key1
  have f_314 := Fld.ext E_307 Fo_302_v0
  have f_315 := Fld.ext E_307 Fo_302_v1
  have f_316 := Fld.ext E_307 Fo_302_v2
  have f_317 := Fld.ext E_307 Fo_302_v3
  have g_s2 : n0 ≤ s2 := by rw [g_307]; exact Z_302
  have ne_mm_s2 : mm ≠ s2 := by rw [g_307]; exact Nat.ne_of_lt f_303.lt
  have ne_aa_s2 : aa ≠ s2 := by rw [g_307]; exact Nat.ne_of_lt f_304.lt
  have ne_bb_s2 : bb ≠ s2 := by rw [g_307]; exact Nat.ne_of_lt f_305.lt
  have ne_s1_s2 : s1 ≠ s2 := by rw [g_307]; exact Nat.ne_of_lt Eo_302.lt
  have F_key0__307 : Fld Z h_307 s2 "com/example/planwright/planwright/census/SipHash" "key0" "J" (.long (0 : Int64)) := D_307 (Or.inr (w_20 hw)) (ty := .long) (by decide)
  have F_key1__307 : Fld Z h_307 s2 "com/example/planwright/planwright/census/SipHash" "key1" "J" (.long (0 : Int64)) := D_307 (Or.inr (w_22 hw)) (ty := .long) (by decide)
  have F_v0__307 : Fld Z h_307 s2 "com/example/planwright/planwright/census/SipHash" "v0" "J" (.long (0 : Int64)) := D_307 (Or.inl (w_30 hw)) (ty := .long) (by decide)
  have F_v1__307 : Fld Z h_307 s2 "com/example/planwright/planwright/census/SipHash" "v1" "J" (.long (0 : Int64)) := D_307 (Or.inl (w_33 hw)) (ty := .long) (by decide)
  have F_v2__307 : Fld Z h_307 s2 "com/example/planwright/planwright/census/SipHash" "v2" "J" (.long (0 : Int64)) := D_307 (Or.inl (w_36 hw)) (ty := .long) (by decide)
  have F_v3__307 : Fld Z h_307 s2 "com/example/planwright/planwright/census/SipHash" "v3" "J" (.long (0 : Int64)) := D_307 (Or.inl (w_39 hw)) (ty := .long) (by decide)
  refine o_dup X_307 K at_677 678 rfl rfl ?_
  refine o_lloadN X_307 K at_678 679 rfl rfl ?_
  refine o_lloadN X_307 K at_679 680 rfl rfl ?_
  refine o_invokespecial X_307 K at_680 683 rfl rfl (w_13 hw) (w_14 hw) (w_10 hw) (w_15 hw) (by decide) [(.long p0), (.long p1)] [(.ref s2)] rfl  (c_init l Z a0 hw n0 s2 p0 p1 h_307 Z_307 ⟨B_307, F_key0__307, F_key1__307, F_v0__307, F_v1__307, F_v2__307, F_v3__307⟩ g_s2) e_307 rfl (lenOf pd__JJ_V rfl) (by decide) 1 (Nat.le_of_eq rfl) (by decide) (by decide) (by decide) N_302 ?_
  rintro _ T_318 h_318 locs_318 X_318 e_318 ⟨rfl, k_318, S_318⟩ N_318
  have Z_318 : n0 ≤ h_318.size := Nat.le_trans Z_307 k_318.1
  have f_319 := f_308.keep k_318 (ninS ne_mm_s2 (nin0))
  have f_320 := f_309.keep k_318 (ninS ne_aa_s2 (nin0))
  have f_321 := f_310.keep k_318 (ninS ne_bb_s2 (nin0))
  have f_322 := Exa.keep f_311 k_318
  have f_323 := Fld.keep f_312 k_318 (ninS ne_s1_s2 (nin0))
  have f_324 := Fld.keep f_313 k_318 (ninS ne_s1_s2 (nin0))
  have f_325 := Fld.keep f_314 k_318 (ninS ne_s1_s2 (nin0))
  have f_326 := Fld.keep f_315 k_318 (ninS ne_s1_s2 (nin0))
  have f_327 := Fld.keep f_316 k_318 (ninS ne_s1_s2 (nin0))
  have f_328 := Fld.keep f_317 k_318 (ninS ne_s1_s2 (nin0))
  have f_329 := Exa.keep B_307 k_318
  obtain ⟨Eo_318, Fo_318_key0, Fo_318_key1, Fo_318_v0, Fo_318_v1, Fo_318_v2, Fo_318_v3⟩ := S_318
  show OGo p e below s n0 _ _ _ (T_318.setTop (mkF m 683 #[.val (.long p0), .second, .val (.long p1), .second, .val (.long p2), .second, .val (.long p3), .second, .val (.long p4), .second, .val (.int p5), .val (.ref mm), .val (.int of1), .val (.int len), .val (.int of2), .val (.int ee), .val (.ref aa), .val (.ref bb), .val (.ref s1), .val (.long h15), .second, .val (.long hh0), .second, .unset, .unset, .unset, .unset, .unset] [(.ref s2)]))
  refine o_astore X_318 K at_683 685 rfl #[.val (.long p0), .second, .val (.long p1), .second, .val (.long p2), .second, .val (.long p3), .second, .val (.long p4), .second, .val (.int p5), .val (.ref mm), .val (.int of1), .val (.int len), .val (.int of2), .val (.int ee), .val (.ref aa), .val (.ref bb), .val (.ref s1), .val (.long h15), .second, .val (.long hh0), .second, .val (.ref s2), .unset, .unset, .unset, .unset] rfl rfl ?_
  refine o_aload X_318 K at_685 687 rfl rfl rfl ?_
  refine o_aload X_318 K at_687 689 rfl rfl rfl ?_
  refine o_iload X_318 K at_689 691 rfl rfl ?_
  refine o_iload X_318 K at_691 693 rfl rfl ?_
  refine o_iload X_318 K at_693 695 rfl rfl ?_
  refine o_iadd X_318 K at_695 696 rfl ?_
  refine o_invokevirtual X_318 K at_696 699 rfl (w_23 hw) (w_24 hw) (w_26 hw) (w_25 hw) (w_10 hw) (w_27 hw) (by decide) Eo_318 [(.ref aa), (.int of1), (.int (of1 + len))] [] rfl  (c_hash l Z a0 hw n0 s2 aa p0 p1 ((0 : Int64), (0 : Int64), (0 : Int64), (0 : Int64)) (fun j => own_data p2 p3 p4 (Int32.ofNat j)) 24 of1 (of1 + len) len h_318 Z_318 ⟨Eo_318, Fo_318_key0, Fo_318_key1, Fo_318_v0, Fo_318_v1, Fo_318_v2, Fo_318_v3⟩ g_s2 f_320 ne_aa_s2 (⟨ho1.1, hs1.symm, hln.1, by omega, by decide, hd_of1⟩)) e_318 rfl (lenOf pd___BII_J rfl) (by decide) 0 (Nat.le_of_eq rfl) (by decide) (by decide) (by decide) N_318 ?_
  rintro _ T_330 h_330 locs_330 X_330 e_330 ⟨rfl, k_330, tt_330, S_330⟩ N_330
  have Z_330 : n0 ≤ h_330.size := Nat.le_trans Z_318 k_330.1
  have f_331 := f_319.keep k_330 (ninS ne_mm_s2 (nin0))
  have f_332 := f_320.keep k_330 (ninS ne_aa_s2 (nin0))
  have f_333 := f_321.keep k_330 (ninS ne_bb_s2 (nin0))
  have f_334 := Exa.keep f_322 k_330
  have f_335 := Fld.keep f_323 k_330 (ninS ne_s1_s2 (nin0))
  have f_336 := Fld.keep f_324 k_330 (ninS ne_s1_s2 (nin0))
  have f_337 := Fld.keep f_325 k_330 (ninS ne_s1_s2 (nin0))
  have f_338 := Fld.keep f_326 k_330 (ninS ne_s1_s2 (nin0))
  have f_339 := Fld.keep f_327 k_330 (ninS ne_s1_s2 (nin0))
  have f_340 := Fld.keep f_328 k_330 (ninS ne_s1_s2 (nin0))
  have f_341 := Exa.keep Eo_318 k_330
  obtain ⟨Eo_330, Fo_330_key0, Fo_330_key1, Fo_330_v0, Fo_330_v1, Fo_330_v2, Fo_330_v3⟩ := S_330
  show OGo p e below s n0 _ _ _ (T_330.setTop (mkF m 699 #[.val (.long p0), .second, .val (.long p1), .second, .val (.long p2), .second, .val (.long p3), .second, .val (.long p4), .second, .val (.int p5), .val (.ref mm), .val (.int of1), .val (.int len), .val (.int of2), .val (.int ee), .val (.ref aa), .val (.ref bb), .val (.ref s1), .val (.long h15), .second, .val (.long hh0), .second, .val (.ref s2), .unset, .unset, .unset, .unset] [(.long (own_hash p0 p1 (fun j => own_data p2 p3 p4 (Int32.ofNat j)) of1.toInt.toNat len))]))
  obtain ⟨ha, h_ha⟩ : ∃ z_ : Int64, z_ = (own_hash p0 p1 (fun j => own_data p2 p3 p4 (Int32.ofNat j)) of1.toInt.toNat len) := ⟨_, rfl⟩
  refine o_lstore X_330 K at_699 701 rfl #[.val (.long p0), .second, .val (.long p1), .second, .val (.long p2), .second, .val (.long p3), .second, .val (.long p4), .second, .val (.int p5), .val (.ref mm), .val (.int of1), .val (.int len), .val (.int of2), .val (.int ee), .val (.ref aa), .val (.ref bb), .val (.ref s1), .val (.long h15), .second, .val (.long hh0), .second, .val (.ref s2), .val (.long ha), .second, .unset, .unset] h_ha.symm rfl ?_
  refine o_aload X_330 K at_701 703 rfl rfl rfl ?_
  refine o_aload X_330 K at_703 705 rfl rfl rfl ?_
  refine o_iload X_330 K at_705 707 rfl rfl ?_
  refine o_iload X_330 K at_707 709 rfl rfl ?_
  refine o_iload X_330 K at_709 711 rfl rfl ?_
  refine o_iadd X_330 K at_711 712 rfl ?_
  refine o_invokevirtual X_330 K at_712 715 rfl (w_23 hw) (w_24 hw) (w_26 hw) (w_25 hw) (w_10 hw) (w_27 hw) (by decide) Eo_330 [(.ref bb), (.int of2), (.int (of2 + len))] [] rfl  (c_hash l Z a0 hw n0 s2 bb p0 p1 tt_330 (fun j => own_bv p2 p3 p4 (Int32.ofNat j) of1 of2 len) 24 of2 (of2 + len) len h_330 Z_330 ⟨Eo_330, Fo_330_key0, Fo_330_key1, Fo_330_v0, Fo_330_v1, Fo_330_v2, Fo_330_v3⟩ g_s2 f_333 ne_bb_s2 (⟨ho2.1, hs2.symm, hln.1, by omega, by decide, hd_of2⟩)) e_330 rfl (lenOf pd___BII_J rfl) (by decide) 0 (Nat.le_of_eq rfl) (by decide) (by decide) (by decide) N_330 ?_
  rintro _ T_342 h_342 locs_342 X_342 e_342 ⟨rfl, k_342, tt_342, S_342⟩ N_342
  have Z_342 : n0 ≤ h_342.size := Nat.le_trans Z_330 k_342.1
  have f_343 := f_331.keep k_342 (ninS ne_mm_s2 (nin0))
  have f_344 := f_332.keep k_342 (ninS ne_aa_s2 (nin0))
  have f_345 := f_333.keep k_342 (ninS ne_bb_s2 (nin0))
  have f_346 := Exa.keep f_334 k_342
  have f_347 := Fld.keep f_335 k_342 (ninS ne_s1_s2 (nin0))
  have f_348 := Fld.keep f_336 k_342 (ninS ne_s1_s2 (nin0))
  have f_349 := Fld.keep f_337 k_342 (ninS ne_s1_s2 (nin0))
  have f_350 := Fld.keep f_338 k_342 (ninS ne_s1_s2 (nin0))
  have f_351 := Fld.keep f_339 k_342 (ninS ne_s1_s2 (nin0))
  have f_352 := Fld.keep f_340 k_342 (ninS ne_s1_s2 (nin0))
  have f_353 := Exa.keep Eo_330 k_342
  obtain ⟨Eo_342, Fo_342_key0, Fo_342_key1, Fo_342_v0, Fo_342_v1, Fo_342_v2, Fo_342_v3⟩ := S_342
  show OGo p e below s n0 _ _ _ (T_342.setTop (mkF m 715 #[.val (.long p0), .second, .val (.long p1), .second, .val (.long p2), .second, .val (.long p3), .second, .val (.long p4), .second, .val (.int p5), .val (.ref mm), .val (.int of1), .val (.int len), .val (.int of2), .val (.int ee), .val (.ref aa), .val (.ref bb), .val (.ref s1), .val (.long h15), .second, .val (.long hh0), .second, .val (.ref s2), .val (.long ha), .second, .unset, .unset] [(.long (own_hash p0 p1 (fun j => own_bv p2 p3 p4 (Int32.ofNat j) of1 of2 len) of2.toInt.toNat len))]))
  obtain ⟨hb, h_hb⟩ : ∃ z_ : Int64, z_ = (own_hash p0 p1 (fun j => own_bv p2 p3 p4 (Int32.ofNat j) of1 of2 len) of2.toInt.toNat len) := ⟨_, rfl⟩
  refine o_lstore X_342 K at_715 717 rfl #[.val (.long p0), .second, .val (.long p1), .second, .val (.long p2), .second, .val (.long p3), .second, .val (.long p4), .second, .val (.int p5), .val (.ref mm), .val (.int of1), .val (.int len), .val (.int of2), .val (.int ee), .val (.ref aa), .val (.ref bb), .val (.ref s1), .val (.long h15), .second, .val (.long hh0), .second, .val (.ref s2), .val (.long ha), .second, .val (.long hb), .second] h_hb.symm rfl ?_
  refine o_lload X_342 K at_717 719 rfl rfl ?_
  refine o_ldc2J X_342 K at_719 722 rfl (w_56 hw) ?_
  refine o_lcmp X_342 K at_722 723 rfl ?_
  refine o_if_ne_f X_342 K at_723 726 rfl ((lw_eq _ _).mpr (by rw [h_h15]; exact own_vec15)) ?_
  refine o_lload X_342 K at_726 728 rfl rfl ?_
  refine o_ldc2J X_342 K at_728 731 rfl (w_57 hw) ?_
  refine o_lcmp X_342 K at_731 732 rfl ?_
  refine o_if_ne_f X_342 K at_732 735 rfl ((lw_eq _ _).mpr (by rw [h_hh0]; exact own_vec0 _ _)) ?_
  refine o_lload X_342 K at_735 737 rfl rfl ?_
  refine o_lload X_342 K at_737 739 rfl rfl ?_
  refine o_lcmp X_342 K at_739 740 rfl ?_
  refine o_if_ne_f X_342 K at_740 743 rfl ((lw_eq _ _).mpr (by rw [h_ha, h_hb]; exact own_same p0 p1 p2 p3 p4 of1 of2 len ho1 ho2 hln)) ?_
  refine o_iconst X_342 K (1 : Int32) at_743 744 rfl rfl ?_
  refine o_goto X_342 K at_744 748 (by decide) (by decide) ?_
  refine o_ireturnN X_342 K (by decide) at_748 (by decide) (by decide) N_342 ?_
  exact rfl
set_option maxHeartbeats 4000000 in
theorem comes_1 {Post : Tables → Env → Array Value → State → Outcome → State → Prop} (hpost : ∀ tb e args s v u, (limb_1_1.after args s (.returned v) u = true ∧ limb_1_2.after args s (.returned v) u = true ∧ True) → FrameEnd s (.returned v) u (Jvm.fieldLocs frame_1_writes args s ++ Jvm.arrayLocs frame_1_arrays args s ++ Jvm.staticLocs frame_1_statics s) 24 256 → Post tb e args s (.returned v) u) :
    ArmFor flags0 classFile x code maxLocals ret World_1 tables_1 room_1 Calls_1 rest_1 Pre_1 Post := by
  intro l hfl _ _ p e ha hc hk s m args below hf hA hF happ hP
  obtain ⟨hcalls, hrest, hpre⟩ := hP
  obtain ⟨-, -, -, hnamed, -, -, -, hat⟩ := (Spec.applies_iff hf).mp happ
  obtain ⟨hg, hn⟩ := and_e (Cond.before_iff.mp (show (Jvm.Cond.and given_1 narrow_1).before args s = true from hpre))
  obtain ⟨g1, g2⟩ := and_e hg
  obtain ⟨g3, g4⟩ := and_e g2
  obtain ⟨g5, g6⟩ := and_e g4
  obtain ⟨g7, g8⟩ := and_e g6
  obtain ⟨g9, g10⟩ := and_e g8
  obtain ⟨g11, g12⟩ := and_e g10
  obtain ⟨w0, w1, w2, w3, w4, w5, rfl⟩ : ∃ w0 w1 w2 w3 w4 w5 : Value, args = #[w0, w1, w2, w3, w4, w5] := by
    have hs : args.size = 6 := by simpa [Cond.value, given_1] using g1
    obtain ⟨L⟩ := args
    match L, hs with
    | [w0, w1, w2, w3, w4, w5], _ => exact ⟨w0, w1, w2, w3, w4, w5, rfl⟩
  have hw := fun d (hd : d ∈ tables_1) => atoms_spec (ws := Jvm.Cond.code x code maxLocals ret :: tables_1) hat d (List.mem_cons_of_mem _ hd)
  have hfit : Fit s := fun {y c} hc i hi => by
    obtain ⟨ha, rfl⟩ := Array.getElem?_eq_some_iff.mp hc
    have q := List.all_eq_true.mp ((Array.all_eq_true_iff_forall_mem.mp hF) _ (Array.getElem_mem ha)) i (List.mem_range.mpr hi)
    simpa [Array.getElem?_eq_getElem hi] using q
  obtain ⟨i0, ei0⟩ := isL_v g3
  obtain rfl : w0 = (.long i0) := Option.some.inj ei0
  obtain ⟨i1, ei1⟩ := isL_v g5
  obtain rfl : w1 = (.long i1) := Option.some.inj ei1
  obtain ⟨i2, ei2⟩ := isL_v g7
  obtain rfl : w2 = (.long i2) := Option.some.inj ei2
  obtain ⟨i3, ei3⟩ := isL_v g9
  obtain rfl : w3 = (.long i3) := Option.some.inj ei3
  obtain ⟨i4, ei4⟩ := isL_v g11
  obtain rfl : w4 = (.long i4) := Option.some.inj ei4
  obtain ⟨i5, ei5⟩ := is_v g12
  obtain rfl : w5 = (.int i5) := Option.some.inj ei5
  obtain ⟨n, o, h1, h2, h3, _, L, rfl, ⟨rfl, N⟩, hq⟩ := rm0 l s _ hw s.heap.size i0 i1 i2 i3 i4 i5 s.heap (Nat.le_refl _)  tables_1 p e ha hc hk s m _ below hf ((Spec.applies_iff_loose hf).mp happ).1 ⟨rfl, State.Warmed39.refl s, rfl⟩ trivial
  refine ⟨n, _, h1, h2, h3, hpost _ _ _ _ _ _ ⟨Cond.after_iff.mpr rfl, Cond.after_iff.mpr (eq_i res_at (Term.int_eval (1)) rfl), trivial⟩ ⟨hq.1, hq.2.1, (hq.2.2.sift fun y hy => Or.inr (N y hy)).mono (by decide) (by decide)⟩⟩
theorem main_1_1 : Claimed_1_1 := comes_1 fun _ _ _ _ _ _ h hF => ⟨h.1, hF⟩
theorem main_1_2 : Claimed_1_2 := comes_1 fun _ _ _ _ _ _ h hF => ⟨h.2.1, hF⟩
end Jvm.Pilot.@@N@@
namespace Jvm.Pilot.@@N@@
open Jvm Jvm.ClassFile Sem Op Lib Jvm.Free Jvm.Stand Jvm.Pilot.@@N@@.Jvm.D
/-! MADE BY PROGRAM (witnessworld.py) out of the Statement's table words and the real class files: 14 classes; the members and pool entries that the words name. The judged class is class 1, her method 1. -/
namespace start1
open Jvm.ClassFile
def u (s : String) : CpInfo := .utf8 (stringToUtf16 s)
/-- a pool by its gaps: so many unusable entries, then the entry; so many at the end -/
def gap : Nat → List CpInfo → List CpInfo
  | 0, r => r
  | n + 1, r => .unusable :: gap n r
def poolList (es : List (Nat × CpInfo)) (last : Nat) : List CpInfo := es.foldr (fun e r => gap e.1 (e.2 :: r)) (gap last [])
def pool (es : List (Nat × CpInfo)) (last : Nat) : Array CpInfo := ⟨poolList es last⟩
def fileOf (pool : Array CpInfo) (this : Nat) (attrs : Array Attribute := #[]) (ms : Array MethodInfo := #[]) (fl : Nat := 33) (sup : Nat := 0) (ifs : Array Nat := #[]) (fds : Array FieldInfo := #[]) : ClassFile where
  minorVersion := 0
  majorVersion := 65
  constantPool := pool
  accessFlags := fl
  thisClass := this
  superClass := sup
  interfaces := ifs
  fields := fds
  methods := ms
  attributes := attrs
def plain (name : String) (sup : Option ClassId) : Class where
  name := name
  kind := .ordinary
  loader := none
  accessFlags := 33
  super := sup
  interfaces := #[]
  cf := none
  fields := #[]
  methods := #[]
  instanceTypes := #[]
  staticTypes := #[]
  resolved := #[]
  callSites := []
  init := .initialized
  statics := none
  mirror := none

def pool0 : Array CpInfo := pool [(5, u "<init>"), (0, u "()V"), (1, .class_ 10), (1, u "java/lang/Object")] 113

def k0c0 : Code := { maxStack := 0, maxLocals := 1, code := object_method_1_code, exceptionTable := #[], attributes := #[] }
def k0m0 : Method := { name := "<init>", desc := "()V", sig := { parameters := [], returnType := none }, accessFlags := 1, code := some k0c0 }
/-- java/lang/Object -/
def k0 : Class := { plain "java/lang/Object" none with
  accessFlags := 33
  interfaces := #[]
  cf := some (fileOf pool0 8 #[] #[{ accessFlags := 1, nameIndex := 5, descriptorIndex := 6, attributes := #[] }] 33 0 #[] #[])
  fields := #[]
  methods := #[k0m0]
  instanceTypes := #[]
  staticTypes := #[]
  resolved := Array.replicate 124 none
  statics := none }

def pool1 : Array CpInfo := pool [(2, .class_ 4), (1, u "java/lang/Object"), (0, u "<init>"), (0, u "()V"), (0, .methodref 8 9), (0, .class_ 10), (0, .nameAndType 11 12), (0, u "com/example/planwright/planwright/census/SipHashHashPinLaw"), (0, u "put"), (0, u "([B[BIJJJIII)V"), (0, .class_ 14), (0, u "com/example/planwright/planwright/census/SipHash"), (0, .long 506097522914230528), (1, .long 1084818905618843912), (1, .methodref 13 20), (0, .nameAndType 5 21), (0, u "(JJ)V"), (0, .methodref 13 23), (0, .nameAndType 24 25), (0, u "hash"), (0, u "([BII)J"), (0, .long 11613035633349379557), (1, .long 8246050544436514353), (1, .methodref 8 31), (0, .nameAndType 32 33), (0, u "data"), (0, u "(JJJI)B"), (2, u "law"), (0, u "(JJJJJI)Z")] 5

def k1m0 : Method := { name := "<init>", desc := "()V", sig := { parameters := [], returnType := none }, accessFlags := 1, code := none }
def k1c1 : Code := { maxStack := 12, maxLocals := 28, code := code, exceptionTable := #[], attributes := #[] }
def k1m1 : Method := { name := "law", desc := "(JJJJJI)Z", sig := { parameters := [.long, .long, .long, .long, .long, .int], returnType := some .boolean }, accessFlags := 9, code := some k1c1 }
def k1c2 : Code := { maxStack := 4, maxLocals := 9, code := method_3_code, exceptionTable := #[], attributes := #[] }
def k1m2 : Method := { name := "data", desc := "(JJJI)B", sig := { parameters := [.long, .long, .long, .int], returnType := some .byte }, accessFlags := 10, code := some k1c2 }
def k1c3 : Code := { maxStack := 10, maxLocals := 12, code := method_4_code, exceptionTable := #[], attributes := #[] }
def k1m3 : Method := { name := "put", desc := "([B[BIJJJIII)V", sig := { parameters := [(.array .byte), (.array .byte), .int, .long, .long, .long, .int, .int, .int], returnType := none }, accessFlags := 10, code := some k1c3 }
/-- com/example/planwright/planwright/census/SipHashHashPinLaw -/
def k1 : Class := { plain "com/example/planwright/planwright/census/SipHashHashPinLaw" (some 0) with
  accessFlags := 49
  interfaces := #[]
  cf := some (fileOf pool1 8 #[] #[{ accessFlags := 1, nameIndex := 5, descriptorIndex := 6, attributes := #[] }, { accessFlags := 9, nameIndex := 36, descriptorIndex := 37, attributes := #[] }, { accessFlags := 10, nameIndex := 32, descriptorIndex := 33, attributes := #[] }, { accessFlags := 10, nameIndex := 11, descriptorIndex := 12, attributes := #[] }] 49 2 #[] #[])
  fields := #[]
  methods := #[k1m0, k1m1, k1m2, k1m3]
  instanceTypes := #[]
  staticTypes := #[]
  resolved := Array.replicate 43 none
  statics := none }

def pool2 : Array CpInfo := pool [(1, .methodref 2 3), (0, .class_ 4), (0, .nameAndType 5 6), (0, u "java/lang/Object"), (0, u "<init>"), (0, u "()V"), (0, .fieldref 8 9), (0, .class_ 10), (0, .nameAndType 11 12), (0, u "com/example/planwright/planwright/census/SipHash"), (0, u "key0"), (0, u "J"), (0, .fieldref 8 14), (0, .nameAndType 15 12), (0, u "key1"), (0, .long 8317987319222330741), (1, .fieldref 8 19), (0, .nameAndType 20 12), (0, u "v0"), (0, .long 7237128888997146477), (1, .fieldref 8 24), (0, .nameAndType 25 12), (0, u "v1"), (0, .long 7816392313619706465), (1, .fieldref 8 29), (0, .nameAndType 30 12), (0, u "v2"), (0, .long 8387220255154660723), (1, .fieldref 8 34), (0, .nameAndType 35 12), (0, u "v3"), (0, .methodref 8 37), (0, .nameAndType 38 39), (0, u "littleEndian"), (0, u "([BII)J"), (0, .methodref 8 41), (0, .nameAndType 42 43), (0, u "absorb"), (0, u "(J)V"), (0, .long 255), (1, .methodref 8 47), (0, .nameAndType 48 49), (0, u "rounds"), (0, u "(I)V"), (0, .methodref 51 52), (0, .class_ 53), (0, .nameAndType 54 55), (0, u "java/lang/Long"), (0, u "rotateLeft"), (0, u "(JI)J"), (0, u "(JJ)V"), (2, u "hash")] 3

def k2c0 : Code := { maxStack := 3, maxLocals := 5, code := prog_20_method_1_code, exceptionTable := #[], attributes := #[] }
def k2m0 : Method := { name := "<init>", desc := "(JJ)V", sig := { parameters := [.long, .long], returnType := none }, accessFlags := 0, code := some k2c0 }
def k2c1 : Code := { maxStack := 6, maxLocals := 7, code := prog_20_method_2_code, exceptionTable := #[], attributes := #[] }
def k2m1 : Method := { name := "hash", desc := "([BII)J", sig := { parameters := [(.array .byte), .int, .int], returnType := some .long }, accessFlags := 0, code := some k2c1 }
def k2c2 : Code := { maxStack := 5, maxLocals := 3, code := prog_20_method_3_code, exceptionTable := #[], attributes := #[] }
def k2m2 : Method := { name := "absorb", desc := "(J)V", sig := { parameters := [.long], returnType := none }, accessFlags := 2, code := some k2c2 }
def k2c3 : Code := { maxStack := 5, maxLocals := 3, code := prog_20_method_4_code, exceptionTable := #[], attributes := #[] }
def k2m3 : Method := { name := "rounds", desc := "(I)V", sig := { parameters := [.int], returnType := none }, accessFlags := 2, code := some k2c3 }
def k2c4 : Code := { maxStack := 4, maxLocals := 6, code := prog_20_method_5_code, exceptionTable := #[], attributes := #[] }
def k2m4 : Method := { name := "littleEndian", desc := "([BII)J", sig := { parameters := [(.array .byte), .int, .int], returnType := some .long }, accessFlags := 10, code := some k2c4 }
/-- com/example/planwright/planwright/census/SipHash -/
def k2 : Class := { plain "com/example/planwright/planwright/census/SipHash" (some 0) with
  accessFlags := 32
  interfaces := #[]
  cf := some (fileOf pool2 8 #[] #[{ accessFlags := 0, nameIndex := 5, descriptorIndex := 56, attributes := #[] }, { accessFlags := 0, nameIndex := 59, descriptorIndex := 39, attributes := #[] }, { accessFlags := 2, nameIndex := 42, descriptorIndex := 43, attributes := #[] }, { accessFlags := 2, nameIndex := 48, descriptorIndex := 49, attributes := #[] }, { accessFlags := 10, nameIndex := 38, descriptorIndex := 39, attributes := #[] }] 32 2 #[] #[{ accessFlags := 18, nameIndex := 11, descriptorIndex := 12, attributes := #[] }, { accessFlags := 18, nameIndex := 15, descriptorIndex := 12, attributes := #[] }, { accessFlags := 2, nameIndex := 20, descriptorIndex := 12, attributes := #[] }, { accessFlags := 2, nameIndex := 25, descriptorIndex := 12, attributes := #[] }, { accessFlags := 2, nameIndex := 30, descriptorIndex := 12, attributes := #[] }, { accessFlags := 2, nameIndex := 35, descriptorIndex := 12, attributes := #[] }])
  fields := #[{ name := "key0", type := .long, accessFlags := 18, slot := 0, constantValue := 0 }, { name := "key1", type := .long, accessFlags := 18, slot := 1, constantValue := 0 }, { name := "v0", type := .long, accessFlags := 2, slot := 2, constantValue := 0 }, { name := "v1", type := .long, accessFlags := 2, slot := 3, constantValue := 0 }, { name := "v2", type := .long, accessFlags := 2, slot := 4, constantValue := 0 }, { name := "v3", type := .long, accessFlags := 2, slot := 5, constantValue := 0 }]
  methods := #[k2m0, k2m1, k2m2, k2m3, k2m4]
  instanceTypes := #[.long, .long, .long, .long, .long, .long]
  staticTypes := #[]
  resolved := Array.replicate 63 none
  statics := none }

def pool3 : Array CpInfo := pool [(1, .class_ 2), (0, u "java/io/Serializable"), (0, .class_ 4), (0, u "java/lang/Object")] 2

/-- java/io/Serializable -/
def k3 : Class := { plain "java/io/Serializable" (some 0) with
  accessFlags := 1537
  interfaces := #[]
  cf := some (fileOf pool3 1 #[] #[] 1537 3 #[] #[])
  fields := #[]
  methods := #[]
  instanceTypes := #[]
  staticTypes := #[]
  resolved := Array.replicate 7 none
  statics := none }

def pool4 : Array CpInfo := pool [(2, .class_ 4), (1, u "java/lang/Object"), (0, u "<init>"), (0, u "()V"), (1, .class_ 10), (1, u "java/lang/Number"), (2, .class_ 14), (0, u "java/io/Serializable"), (0, u "serialVersionUID"), (0, u "J")] 20

def k4m0 : Method := { name := "<init>", desc := "()V", sig := { parameters := [], returnType := none }, accessFlags := 1, code := none }
/-- java/lang/Number -/
def k4 : Class := { plain "java/lang/Number" (some 0) with
  accessFlags := 1057
  interfaces := #[3]
  cf := some (fileOf pool4 8 #[] #[{ accessFlags := 1, nameIndex := 5, descriptorIndex := 6, attributes := #[] }] 1057 2 #[13] #[{ accessFlags := 26, nameIndex := 15, descriptorIndex := 16, attributes := #[] }])
  fields := #[{ name := "serialVersionUID", type := .long, accessFlags := 26, slot := 0, constantValue := 0 }]
  methods := #[k4m0]
  instanceTypes := #[]
  staticTypes := #[.long]
  resolved := Array.replicate 37 none
  statics := none }

def pool5 : Array CpInfo := pool [(1, .class_ 2), (0, u "java/lang/Comparable"), (0, .class_ 4), (0, u "java/lang/Object")] 7

/-- java/lang/Comparable -/
def k5 : Class := { plain "java/lang/Comparable" (some 0) with
  accessFlags := 1537
  interfaces := #[]
  cf := some (fileOf pool5 1 #[] #[] 1537 3 #[] #[])
  fields := #[]
  methods := #[]
  instanceTypes := #[]
  staticTypes := #[]
  resolved := Array.replicate 12 none
  statics := none }

def pool6 : Array CpInfo := pool [(1, .class_ 2), (0, u "java/lang/constant/Constable"), (0, .class_ 4), (0, u "java/lang/Object")] 6

/-- java/lang/constant/Constable -/
def k6 : Class := { plain "java/lang/constant/Constable" (some 0) with
  accessFlags := 1537
  interfaces := #[]
  cf := some (fileOf pool6 1 #[] #[] 1537 3 #[] #[])
  fields := #[]
  methods := #[]
  instanceTypes := #[]
  staticTypes := #[]
  resolved := Array.replicate 11 none
  statics := none }

def pool7 : Array CpInfo := pool [(1, .class_ 2), (0, u "java/lang/constant/ConstantDesc"), (0, .class_ 4), (0, u "java/lang/Object")] 32

/-- java/lang/constant/ConstantDesc -/
def k7 : Class := { plain "java/lang/constant/ConstantDesc" (some 0) with
  accessFlags := 1537
  interfaces := #[]
  cf := some (fileOf pool7 1 #[] #[] 1537 3 #[] #[])
  fields := #[]
  methods := #[]
  instanceTypes := #[]
  staticTypes := #[]
  resolved := Array.replicate 37 none
  statics := none }

def pool8 : Array CpInfo := pool [(1, .class_ 2), (0, u "java/lang/Long"), (232, .class_ 237), (1, u "java/lang/Long$LongCache"), (33, .class_ 272), (0, u "java/lang/Number"), (2, u "value"), (0, u "J"), (84, u "TYPE"), (0, u "Ljava/lang/Class;"), (0, .class_ 364), (0, u "java/lang/Comparable"), (0, .class_ 366), (0, u "java/lang/constant/Constable"), (0, .class_ 368), (0, u "java/lang/constant/ConstantDesc"), (0, u "MIN_VALUE"), (1, u "MAX_VALUE"), (4, u "SIZE"), (0, u "I"), (1, u "BYTES"), (1, u "serialVersionUID"), (95, u "rotateLeft"), (0, u "(JI)J")] 45

def k8c0 : Code := { maxStack := 5, maxLocals := 3, code := jdk_35_method_51_code, exceptionTable := #[], attributes := #[] }
def k8m0 : Method := { name := "rotateLeft", desc := "(JI)J", sig := { parameters := [.long, .int], returnType := some .long }, accessFlags := 9, code := some k8c0 }
/-- java/lang/Long -/
def k8 : Class := { plain "java/lang/Long" (some 4) with
  accessFlags := 49
  interfaces := #[5, 6, 7]
  cf := some (fileOf pool8 1 #[.nestMembers #[235]] #[{ accessFlags := 9, nameIndex := 477, descriptorIndex := 478, attributes := #[] }] 49 271 #[363, 365, 367] #[{ accessFlags := 25, nameIndex := 369, descriptorIndex := 276, attributes := #[] }, { accessFlags := 25, nameIndex := 371, descriptorIndex := 276, attributes := #[] }, { accessFlags := 25, nameIndex := 361, descriptorIndex := 362, attributes := #[] }, { accessFlags := 18, nameIndex := 275, descriptorIndex := 276, attributes := #[] }, { accessFlags := 25, nameIndex := 376, descriptorIndex := 377, attributes := #[] }, { accessFlags := 25, nameIndex := 379, descriptorIndex := 377, attributes := #[] }, { accessFlags := 26, nameIndex := 381, descriptorIndex := 276, attributes := #[] }])
  fields := #[{ name := "MIN_VALUE", type := .long, accessFlags := 25, slot := 0, constantValue := 0 }, { name := "MAX_VALUE", type := .long, accessFlags := 25, slot := 1, constantValue := 0 }, { name := "TYPE", type := (.object "java/lang/Class"), accessFlags := 25, slot := 2, constantValue := 0 }, { name := "value", type := .long, accessFlags := 18, slot := 0, constantValue := 0 }, { name := "SIZE", type := .int, accessFlags := 25, slot := 3, constantValue := 0 }, { name := "BYTES", type := .int, accessFlags := 25, slot := 4, constantValue := 0 }, { name := "serialVersionUID", type := .long, accessFlags := 26, slot := 5, constantValue := 0 }]
  methods := #[k8m0]
  instanceTypes := #[.long]
  staticTypes := #[.long, .long, (.object "java/lang/Class"), .int, .int, .long]
  resolved := Array.replicate 524 none
  statics := none }

def pool9 : Array CpInfo := pool [(1, u "java/lang/Cloneable"), (0, .class_ 1), (0, u "java/lang/Object"), (0, .class_ 3)] 3

/-- java/lang/Cloneable -/
def k9 : Class := { plain "java/lang/Cloneable" (some 0) with
  accessFlags := 1537
  interfaces := #[]
  cf := some (fileOf pool9 2 #[] #[] 1537 4 #[] #[])
  fields := #[]
  methods := #[]
  instanceTypes := #[]
  staticTypes := #[]
  resolved := Array.replicate 8 none
  statics := none }

/-- the primitive byte -/
def k10 : Class := { plain "byte" none with kind := .primitive 'B', accessFlags := 0x411 }
/-- [B -/
def k11 : Class := { plain "[B" (some 0) with kind := .array 10 .byte, interfaces := #[9, 3], accessFlags := 1041 }

/-- the primitive int -/
def k12 : Class := { plain "int" none with kind := .primitive 'I', accessFlags := 0x411 }
/-- [I -/
def k13 : Class := { plain "[I" (some 0) with kind := .array 12 .int, interfaces := #[9, 3], accessFlags := 1041 }

def heap : Heap := #[]
def classes : Array Class := #[k0, k1, k2, k3, k4, k5, k6, k7, k8, k9, k10, k11, k12, k13]
def interned : List (Array UInt16 × Addr) := []
def slotsUsed : Nat := 0
def theMethod : MethodId := ⟨1, 1⟩
def args0 : Array Value := #[.long 5, .long 3, .long 5, .long 3, .long 3, .int 77]
def aboutOver (below : List Frame) : State where
  vm := { classes := classes, interned := interned.toArray }
  heap := heap
  slotsUsed := slotsUsed
  threads := #[{ frames := .invoking theMethod args0 :: below }]
def below0 : List Frame := [.native { method := ⟨0, 0⟩, args := #[] }]
def about1 : State := aboutOver below0
def p0 : Program := .bare "" "" ""
def e0 : Env := launch0.env 0 0 0
theorem w_frames : about1.frames = Frame.invoking theMethod args0 :: below0 := rfl
set_option maxRecDepth 65536 in
theorem w_args : argsFit about1.vm theMethod args0 = true := by decide +kernel
set_option maxRecDepth 65536 in
theorem w_heap : heapFits about1 = true := by decide +kernel
set_option maxRecDepth 65536 in
theorem w_runnable : about1.curStatus? = some .runnable := by decide +kernel
set_option maxRecDepth 65536 in
theorem w_alone : about1.alone = true := by decide +kernel
set_option maxRecDepth 65536 in
theorem w_named : about1.methodNamed? x = some theMethod := by decide +kernel
set_option maxRecDepth 65536 in
theorem w_hears : about1.hears theMethod below0 = true := by decide +kernel
set_option maxRecDepth 65536 in
theorem w_ripe : about1.ripe theMethod args0 below0 = true := by decide +kernel
theorem w_running : about1.status = .running := rfl
set_option maxRecDepth 65536 in
theorem w_room : about1.hasRoom e0.platform room_1 = true :=
  launch0.hasRoom_least _ room_1 (by decide +kernel) (by decide +kernel) (by decide +kernel) (by decide +kernel) (by decide +kernel) (by decide +kernel)
theorem allAtoms_all (ts : List Jvm.Cond) (a : Array Jvm.Value) (st : Jvm.State) : (allAtoms ts).before a st = ts.all (fun c => c.before a st) := by
  induction ts with
  | nil => rfl
  | cons c t ih =>
    show (Jvm.Cond.and c (allAtoms t)).before a st = _
    rw [Jvm.Cond.before_and, ih, List.all_cons]
def words1 : List Jvm.Cond := Jvm.Cond.code x code maxLocals ret :: tables_1
/-- a 'code' word, met by the world's own term for the bytes: nothing is compared byte by byte -/
theorem code_word {y : MethodName} {bytes : ByteArray} {mx : Nat} {rt : Option FieldType} {a : Array Value} {s : State} {m : MethodId} {meth : Method} {c : Code} (h1 : s.methodNamed? y = some m) (h2 : s.vm.method? m = some meth) (h3 : meth.code = some c) (h4 : c.code = bytes)
    (h5 : (c.maxLocals == mx && c.exceptionTable.isEmpty && decide (c.maxStack ≤ mostOperands) && decide (meth.sig.returnType = rt) && !meth.locks && decide (parseMethodDescriptor y.desc = some meth.sig)) = true) : (Jvm.Cond.code y bytes mx rt).before a s = true := by
  simp only [Bool.and_eq_true, beq_iff_eq, Bool.not_eq_true', decide_eq_true_eq] at h5
  obtain ⟨⟨⟨⟨⟨g1, g2⟩, g3⟩, g4⟩, g5⟩, g6⟩ := h5
  simp [Cond.before, Cond.holds, Cond.value, h1, h2, h3, h4, g1, g2, g3, g4, g5, g6]
def isCode : Jvm.Cond → Bool
  | .code _ _ _ _ => true
  | _ => false
theorem all_split {L : List Jvm.Cond} {P : Jvm.Cond → Bool} (h1 : L.all (fun c => isCode c || P c) = true) (h2 : ∀ c ∈ L.filter isCode, P c = true) : L.all P = true := by
  refine List.all_eq_true.mpr fun c hc => ?_
  have h := List.all_eq_true.mp h1 c hc
  rcases Bool.eq_false_or_eq_true (isCode c) with hi | hi
  · exact h2 c (List.mem_filter.mpr ⟨hc, hi⟩)
  · simpa [hi] using h
set_option maxRecDepth 65536 in
theorem w_c0 : (Jvm.Cond.code x code maxLocals ret).before args0 about1 = true := code_word (m := ⟨1, 1⟩) (meth := k1m1) (c := k1c1) (by decide +kernel) rfl rfl rfl (by decide +kernel)
set_option maxRecDepth 65536 in
theorem w_c1 : (Jvm.Cond.code ({ cls := "com/example/planwright/planwright/census/SipHashHashPinLaw", name := "put", desc := "([B[BIJJJIII)V" } : Jvm.MethodName) method_4_code (12 : Nat) (Option.none : Option Jvm.ClassFile.FieldType)).before args0 about1 = true := code_word (m := ⟨1, 3⟩) (meth := k1m3) (c := k1c3) (by decide +kernel) rfl rfl rfl (by decide +kernel)
set_option maxRecDepth 65536 in
theorem w_c2 : (Jvm.Cond.code ({ cls := "com/example/planwright/planwright/census/SipHashHashPinLaw", name := "data", desc := "(JJJI)B" } : Jvm.MethodName) method_3_code (9 : Nat) (Option.some Jvm.ClassFile.FieldType.byte)).before args0 about1 = true := code_word (m := ⟨1, 2⟩) (meth := k1m2) (c := k1c2) (by decide +kernel) rfl rfl rfl (by decide +kernel)
set_option maxRecDepth 65536 in
theorem w_c3 : (Jvm.Cond.code ({ cls := "com/example/planwright/planwright/census/SipHash", name := "<init>", desc := "(JJ)V" } : Jvm.MethodName) prog_20_method_1_code (5 : Nat) (Option.none : Option Jvm.ClassFile.FieldType)).before args0 about1 = true := code_word (m := ⟨2, 0⟩) (meth := k2m0) (c := k2c0) (by decide +kernel) rfl rfl rfl (by decide +kernel)
set_option maxRecDepth 65536 in
theorem w_c4 : (Jvm.Cond.code ({ cls := "java/lang/Object", name := "<init>", desc := "()V" } : Jvm.MethodName) object_method_1_code (1 : Nat) (Option.none : Option Jvm.ClassFile.FieldType)).before args0 about1 = true := code_word (m := ⟨0, 0⟩) (meth := k0m0) (c := k0c0) (by decide +kernel) rfl rfl rfl (by decide +kernel)
set_option maxRecDepth 65536 in
theorem w_c5 : (Jvm.Cond.code ({ cls := "com/example/planwright/planwright/census/SipHash", name := "hash", desc := "([BII)J" } : Jvm.MethodName) prog_20_method_2_code (7 : Nat) (Option.some Jvm.ClassFile.FieldType.long)).before args0 about1 = true := code_word (m := ⟨2, 1⟩) (meth := k2m1) (c := k2c1) (by decide +kernel) rfl rfl rfl (by decide +kernel)
set_option maxRecDepth 65536 in
theorem w_c6 : (Jvm.Cond.code ({ cls := "com/example/planwright/planwright/census/SipHash", name := "littleEndian", desc := "([BII)J" } : Jvm.MethodName) prog_20_method_5_code (6 : Nat) (Option.some Jvm.ClassFile.FieldType.long)).before args0 about1 = true := code_word (m := ⟨2, 4⟩) (meth := k2m4) (c := k2c4) (by decide +kernel) rfl rfl rfl (by decide +kernel)
set_option maxRecDepth 65536 in
theorem w_c7 : (Jvm.Cond.code ({ cls := "com/example/planwright/planwright/census/SipHash", name := "absorb", desc := "(J)V" } : Jvm.MethodName) prog_20_method_3_code (3 : Nat) (Option.none : Option Jvm.ClassFile.FieldType)).before args0 about1 = true := code_word (m := ⟨2, 2⟩) (meth := k2m2) (c := k2c2) (by decide +kernel) rfl rfl rfl (by decide +kernel)
set_option maxRecDepth 65536 in
theorem w_c8 : (Jvm.Cond.code ({ cls := "com/example/planwright/planwright/census/SipHash", name := "rounds", desc := "(I)V" } : Jvm.MethodName) prog_20_method_4_code (3 : Nat) (Option.none : Option Jvm.ClassFile.FieldType)).before args0 about1 = true := code_word (m := ⟨2, 3⟩) (meth := k2m3) (c := k2c3) (by decide +kernel) rfl rfl rfl (by decide +kernel)
set_option maxRecDepth 65536 in
theorem w_c9 : (Jvm.Cond.code ({ cls := "java/lang/Long", name := "rotateLeft", desc := "(JI)J" } : Jvm.MethodName) jdk_35_method_51_code (3 : Nat) (Option.some Jvm.ClassFile.FieldType.long)).before args0 about1 = true := code_word (m := ⟨8, 0⟩) (meth := k8m0) (c := k8c0) (by decide +kernel) rfl rfl rfl (by decide +kernel)
def codes1 : List Jvm.Cond := [Jvm.Cond.code x code maxLocals ret, Jvm.Cond.code ({ cls := "com/example/planwright/planwright/census/SipHashHashPinLaw", name := "put", desc := "([B[BIJJJIII)V" } : Jvm.MethodName) method_4_code (12 : Nat) (Option.none : Option Jvm.ClassFile.FieldType), Jvm.Cond.code ({ cls := "com/example/planwright/planwright/census/SipHashHashPinLaw", name := "data", desc := "(JJJI)B" } : Jvm.MethodName) method_3_code (9 : Nat) (Option.some Jvm.ClassFile.FieldType.byte), Jvm.Cond.code ({ cls := "com/example/planwright/planwright/census/SipHash", name := "<init>", desc := "(JJ)V" } : Jvm.MethodName) prog_20_method_1_code (5 : Nat) (Option.none : Option Jvm.ClassFile.FieldType), Jvm.Cond.code ({ cls := "java/lang/Object", name := "<init>", desc := "()V" } : Jvm.MethodName) object_method_1_code (1 : Nat) (Option.none : Option Jvm.ClassFile.FieldType), Jvm.Cond.code ({ cls := "com/example/planwright/planwright/census/SipHash", name := "hash", desc := "([BII)J" } : Jvm.MethodName) prog_20_method_2_code (7 : Nat) (Option.some Jvm.ClassFile.FieldType.long), Jvm.Cond.code ({ cls := "com/example/planwright/planwright/census/SipHash", name := "littleEndian", desc := "([BII)J" } : Jvm.MethodName) prog_20_method_5_code (6 : Nat) (Option.some Jvm.ClassFile.FieldType.long), Jvm.Cond.code ({ cls := "com/example/planwright/planwright/census/SipHash", name := "absorb", desc := "(J)V" } : Jvm.MethodName) prog_20_method_3_code (3 : Nat) (Option.none : Option Jvm.ClassFile.FieldType), Jvm.Cond.code ({ cls := "com/example/planwright/planwright/census/SipHash", name := "rounds", desc := "(I)V" } : Jvm.MethodName) prog_20_method_4_code (3 : Nat) (Option.none : Option Jvm.ClassFile.FieldType), Jvm.Cond.code ({ cls := "java/lang/Long", name := "rotateLeft", desc := "(JI)J" } : Jvm.MethodName) jdk_35_method_51_code (3 : Nat) (Option.some Jvm.ClassFile.FieldType.long)]
set_option maxRecDepth 65536 in
theorem codes_eq : words1.filter isCode = codes1 := rfl
theorem w_codes : ∀ c ∈ words1.filter isCode, c.before args0 about1 = true := by
  rw [codes_eq]
  intro c hc
  simp only [codes1, List.mem_cons, List.not_mem_nil, or_false] at hc
  rcases hc with rfl | rfl | rfl | rfl | rfl | rfl | rfl | rfl | rfl | rfl
  · exact w_c0
  · exact w_c1
  · exact w_c2
  · exact w_c3
  · exact w_c4
  · exact w_c5
  · exact w_c6
  · exact w_c7
  · exact w_c8
  · exact w_c9
set_option maxRecDepth 65536 in
theorem w_t1 : (words1.take 24).all (fun c => isCode c || c.before args0 about1) = true := by decide +kernel
set_option maxRecDepth 65536 in
theorem w_t2 : ((words1.drop 24).take 24).all (fun c => isCode c || c.before args0 about1) = true := by decide +kernel
set_option maxRecDepth 65536 in
theorem w_t3 : ((words1.drop 24).drop 24).all (fun c => isCode c || c.before args0 about1) = true := by decide +kernel
theorem w_tables : (allAtoms (Jvm.Cond.code x code maxLocals ret :: tables_1)).before args0 about1 = true := by
  rw [allAtoms_all]
  show words1.all (fun c => c.before args0 about1) = true
  refine all_split ?_ w_codes
  rw [← List.take_append_drop 24 words1, List.all_append, w_t1, ← List.take_append_drop 24 (words1.drop 24), List.all_append, w_t2, w_t3]
  rfl
set_option maxRecDepth 65536 in
theorem w_case : (Jvm.Cond.and given_1 narrow_1).before args0 about1 = true := by decide +kernel
theorem w_applies : (headSpec (Jvm.Cond.code x code maxLocals ret :: tables_1) room_1).applies x e0.platform about1 = true :=
  (Spec.applies_iff w_frames).mpr ⟨w_running, w_runnable, w_alone, w_named, w_hears, w_ripe, w_room, w_tables⟩
theorem atStart : AtStart classFile x code maxLocals ret World_1 tables_1 room_1 Calls_1 rest_1 Pre_1 launch0 p0 e0 about1 theMethod args0 below0 :=
  ⟨lists_1, trivial, launch0.admits_env _ _ _, launch0.least_env, fairChoices_fair.cas, fairChoices_fair.clock, w_frames, w_args, w_heap, w_applies, trivial, trivial, w_case⟩
end start1
theorem witness_1 : WitnessClaimed_1 := ⟨start1.p0, start1.e0, start1.about1, start1.theMethod, start1.args0, start1.below0, start1.atStart⟩
end Jvm.Pilot.@@N@@
