import JvmDerived
import JvmDerived.Pilot.@@N@@Statement
import JvmDerived.Pilot.@@N@@Code
set_option linter.unusedVariables false
set_option linter.unusedSimpArgs false
namespace Jvm.RoadKit
open Sem ClassFile Op Lib Jvm.Stand Jvm.Free Jvm.LawKit
section New
variable {p : Program} {l : Launch} {e : Env} {R : Room} {s : State} {m : MethodId} {args : Array Value} {below : List Frame} {meth : Method} {c : Code} {T : State} {locs : List Loc} {cells slots : Nat}
theorem retI (X : Stand p l e R s m args below meth c T locs cells slots) (hx : p.tables.exec = Jvm.exec) {pc : Nat} {Ls : Array Slot} {z : Int32} {rest : List Value} (hret : meth.sig.returnType = some .int) (hd : decode c.code pc = .ok (.ireturn, 1)) {fs : List Frame}
    (hl : ∀ (f : JFrame) (acts : List Action), f.method = m → f.locked = none → f.entered = [] → (doReturn e (T.setTop f) acts (some (.int z))).1 = T.setFrames fs) : Steps p.tables e below (T.setTop (mkF m pc Ls (.int z :: rest))) (T.setFrames fs) := by
  have hm' : T.vm.method? m = some meth := X.method'
  have hn : narrow .int (.int z) = .int z := rfl
  show Steps p.tables e below (T.setTop { method := m, pc := pc, locals := Ls, stack := _ :: rest, locked := none }) _
  jvm_step X.here [X.here.top, hx, hd, hm', hret, hn]
  first | (intro acts; rw [hl _ acts rfl rfl rfl]) | rw [hl _ _ rfl rfl rfl]
  exact Steps.refl _
end New
end Jvm.RoadKit
namespace Jvm.Pilot.@@N@@
open Jvm Jvm.ClassFile Sem Op Lib Jvm.Free Jvm.Stand Jvm.LawKit Jvm.RoadKit Bundle Jvm.Pilot.@@N@@.Jvm.D
section Own
variable {p : Program} {l : Launch} {e : Env} {R : Room} {s : State} {m : MethodId} {args : Array Value} {below : List Frame} {meth : Method} {c : Code} {T : State} {locs : List Loc} {cells slots : Nat} {Z : State} {a0 : Array Value} {h h' : Heap} {n0 : Nat} {Q : Option Value → Heap → Prop} {kc ks : Nat} {Ls : Array Slot} {St : List Value} {pc : Nat} {own nm : String} {bytes : ByteArray} {maxL : Nat} {ret : Option FieldType}
/-- the rest of a run: from S the method ends by returning; Q says what it returns and leaves; nothing below n0 is written -/
def OGo (p : Program) (e : Env) (below : List Frame) (s : State) (n0 : Nat) (Q : Option Value → Heap → Prop) (kc ks : Nat) (S : State) : Prop :=
  ∃ U o, Steps p.tables e below S U ∧ U.status = .running ∧ Ended U below o ∧ ∃ v L, o = .returned v ∧ (Q v U.heap ∧ Fr n0 L) ∧ FrameEnd s o U L kc ks
theorem OGo.st {A B : State} (k : ∀ t, Steps p.tables e below A t → Steps p.tables e below B t) (g : OGo p e below s n0 Q kc ks A) : OGo p e below s n0 Q kc ks B := by
  obtain ⟨U, o, h1, r⟩ := g
  exact ⟨U, o, k U h1, r⟩
theorem OGo.imp {A : State} {Q' : Option Value → Heap → Prop} (k : ∀ v h, Q' v h → Q v h) (g : OGo p e below s n0 Q' kc ks A) : OGo p e below s n0 Q kc ks A := by
  obtain ⟨U, o, h1, h2, h3, v, L, h4, ⟨h5, h6⟩, h7⟩ := g
  exact ⟨U, o, h1, h2, h3, v, L, h4, ⟨k _ _ h5, h6⟩, h7⟩
/-- what a walk knows of the method in which it stands -/
def OCx (p : Program) (s : State) (m : MethodId) (meth : Method) (c : Code) (Z : State) (own nm : String) (bytes : ByteArray) (maxL : Nat) (ret : Option FieldType) : Prop :=
  p.tables.exec = Jvm.exec ∧ Z.Warmed39 s.vm ∧ c.code = bytes ∧ c.maxLocals = maxL ∧ s.vm.findClass own = some m.cls ∧ meth.name = nm ∧ meth.sig.returnType = ret ∧ meth.locks = false
theorem OCx.hx (K : OCx p s m meth c Z own nm bytes maxL ret) : p.tables.exec = Jvm.exec := K.1
theorem OCx.hZ (K : OCx p s m meth c Z own nm bytes maxL ret) : Z.Warmed39 s.vm := K.2.1
theorem OCx.hby (K : OCx p s m meth c Z own nm bytes maxL ret) : c.code = bytes := K.2.2.1
theorem OCx.hml (K : OCx p s m meth c Z own nm bytes maxL ret) : c.maxLocals = maxL := K.2.2.2.1
theorem OCx.hown (K : OCx p s m meth c Z own nm bytes maxL ret) : s.vm.findClass own = some m.cls := K.2.2.2.2.1
theorem OCx.hnm (K : OCx p s m meth c Z own nm bytes maxL ret) : meth.name = nm := K.2.2.2.2.2.1
theorem OCx.hret (K : OCx p s m meth c Z own nm bytes maxL ret) : meth.sig.returnType = ret := K.2.2.2.2.2.2.1
theorem OCx.hlk (K : OCx p s m meth c Z own nm bytes maxL ret) : meth.locks = false := K.2.2.2.2.2.2.2
/-- a body's contract: called with these arguments at this heap it returns, and Q -/
def OCon (l : Launch) (Z : State) (n0 : Nat) (y : MethodName) (bytes : ByteArray) (maxL : Nat) (ret : Option FieldType) (rm : Room) (as : Array Value) (h0 : Heap) (Q : Option Value → Heap → Prop) : Prop :=
  ∀ ws, MetFree l y (head1 (Jvm.Cond.code y bytes maxL ret :: ws) rm) (fun a U => a = as ∧ Z.Warmed39 U.vm ∧ U.heap = h0) (fun _ _ _ _ _ => True) (fun _ U o U' => ∃ v L, o = .returned v ∧ (Q v U'.heap ∧ Fr n0 L) ∧ FrameEnd U o U' L rm.cells rm.slots)
theorem OCon.of {y : MethodName} {rm : Room} {as : Array Value} {h0 : Heap} {Ls : Array Slot} (hpl : plainFor y = true) (ho : y.cls = own) (hn : y.name = nm) (hen : ∀ m, entryFrame m as maxL = mkF m 0 Ls [])
    (H : ∀ (p : Program) (e : Env) (s : State) (m : MethodId) (below : List Frame) (meth : Method) (c : Code) (T : State), Stand p l e rm s m as below meth c T [] 0 0 → OCx p s m meth c Z own nm bytes maxL ret → T.heap = h0 → OGo p e below s n0 Q rm.cells rm.slots (T.setTop (mkF m 0 Ls []))) : OCon l Z n0 y bytes maxL ret rm as h0 Q := by
  intro ws
  refine MetFree.of_bodySF hpl hisR ?_
  intro p e s m args below meth c s₁ Bd hml0 hP hK
  obtain ⟨rfl, hZ, hh⟩ := hP
  subst ho hn
  obtain ⟨U, o, h1, r⟩ := H p e s m below meth c s₁ (Stand.of_body Bd) ⟨Bd.exec, hZ, Bd.bytes, hml0, findClass_of_methodNamed Bd.named, (name_of_methodNamed Bd.named Bd.method).1, Bd.returns, Bd.notSynchronized⟩ (by rw [← hh, Bd.state]; rfl)
  exact ⟨U, o, castTop (hen m) h1, r⟩
theorem OCon.imp {y : MethodName} {rm : Room} {as : Array Value} {h0 : Heap} {Q' : Option Value → Heap → Prop} (g : OCon l Z n0 y bytes maxL ret rm as h0 Q) (k : ∀ v h, Q v h → Q' v h) : OCon l Z n0 y bytes maxL ret rm as h0 Q' := by
  intro ws p e ha hc hk s m args below hf happ hP hK
  obtain ⟨n, o, h1, h2, h3, v, L, h4, ⟨h5, h6⟩, h7⟩ := g ws p e ha hc hk s m args below hf happ hP hK
  exact ⟨n, o, h1, h2, h3, v, L, h4, ⟨k _ _ h5, h6⟩, h7⟩

theorem o_iload (X : Stand p l e R s m args below meth c T locs cells slots) (K : OCx p s m meth c Z own nm bytes maxL ret) {k : Nat} {v : Int32} (hd : decode bytes pc = .ok (.iload k, 2)) (pc' : Nat) (hp : pc + 2 = pc') (hl : Ls[k]? = some (.val (.int v))) (hr : OGo p e below s n0 Q kc ks (T.setTop (mkF m pc' Ls (.int v :: St)))) : OGo p e below s n0 Q kc ks (T.setTop (mkF m pc Ls St)) := by
  subst hp
  exact OGo.st (fun _ k => XS.iload X.here K.hx rfl (hb K.hby hd) hl k) hr
theorem o_iloadN (X : Stand p l e R s m args below meth c T locs cells slots) (K : OCx p s m meth c Z own nm bytes maxL ret) {k : Fin 4} {v : Int32} (hd : decode bytes pc = .ok (.iload_n k, 1)) (pc' : Nat) (hp : pc + 1 = pc') (hl : Ls[k.val]? = some (.val (.int v))) (hr : OGo p e below s n0 Q kc ks (T.setTop (mkF m pc' Ls (.int v :: St)))) : OGo p e below s n0 Q kc ks (T.setTop (mkF m pc Ls St)) := by
  subst hp
  exact OGo.st (fun _ k => XS.iloadN X.here K.hx rfl (hb K.hby hd) hl k) hr
theorem o_lload (X : Stand p l e R s m args below meth c T locs cells slots) (K : OCx p s m meth c Z own nm bytes maxL ret) {k : Nat} {v : Int64} (hd : decode bytes pc = .ok (.lload k, 2)) (pc' : Nat) (hp : pc + 2 = pc') (hl : Ls[k]? = some (.val (.long v))) (hr : OGo p e below s n0 Q kc ks (T.setTop (mkF m pc' Ls (.long v :: St)))) : OGo p e below s n0 Q kc ks (T.setTop (mkF m pc Ls St)) := by
  subst hp
  exact OGo.st (fun _ k => XS.lload X.here K.hx rfl (hb K.hby hd) hl k) hr
theorem o_lloadN (X : Stand p l e R s m args below meth c T locs cells slots) (K : OCx p s m meth c Z own nm bytes maxL ret) {k : Fin 4} {v : Int64} (hd : decode bytes pc = .ok (.lload_n k, 1)) (pc' : Nat) (hp : pc + 1 = pc') (hl : Ls[k.val]? = some (.val (.long v))) (hr : OGo p e below s n0 Q kc ks (T.setTop (mkF m pc' Ls (.long v :: St)))) : OGo p e below s n0 Q kc ks (T.setTop (mkF m pc Ls St)) := by
  subst hp
  exact OGo.st (fun _ k => XS.lloadN X.here K.hx rfl (hb K.hby hd) hl k) hr
theorem o_aload (X : Stand p l e R s m args below meth c T locs cells slots) (K : OCx p s m meth c Z own nm bytes maxL ret) {k : Nat} {v : Value} (hd : decode bytes pc = .ok (.aload k, 2)) (pc' : Nat) (hp : pc + 2 = pc') (hl : Ls[k]? = some (.val v)) (hv : v.isRef = true) (hr : OGo p e below s n0 Q kc ks (T.setTop (mkF m pc' Ls (v :: St)))) : OGo p e below s n0 Q kc ks (T.setTop (mkF m pc Ls St)) := by
  subst hp
  exact OGo.st (fun _ k => XS.aload X.here K.hx rfl (hb K.hby hd) hl hv k) hr
theorem o_aloadN (X : Stand p l e R s m args below meth c T locs cells slots) (K : OCx p s m meth c Z own nm bytes maxL ret) {k : Fin 4} {v : Value} (hd : decode bytes pc = .ok (.aload_n k, 1)) (pc' : Nat) (hp : pc + 1 = pc') (hl : Ls[k.val]? = some (.val v)) (hv : v.isRef = true) (hr : OGo p e below s n0 Q kc ks (T.setTop (mkF m pc' Ls (v :: St)))) : OGo p e below s n0 Q kc ks (T.setTop (mkF m pc Ls St)) := by
  subst hp
  exact OGo.st (fun _ k => XS.aloadN X.here K.hx rfl (hb K.hby hd) hl hv k) hr
theorem o_istore (X : Stand p l e R s m args below meth c T locs cells slots) (K : OCx p s m meth c Z own nm bytes maxL ret) {k : Nat} {x x' : Int32} (hd : decode bytes pc = .ok (.istore k, 2)) (pc' : Nat) (hp : pc + 2 = pc') (Ls' : Array Slot) (hv : x = x') (hl : storeLocals Ls k (.int x') = some Ls') (hr : OGo p e below s n0 Q kc ks (T.setTop (mkF m pc' Ls' St))) : OGo p e below s n0 Q kc ks (T.setTop (mkF m pc Ls (.int x :: St))) := by
  subst hp
  exact OGo.st (fun _ k => XS.istore X.here K.hx rfl (hb K.hby hd) rfl (hv ▸ hl) k) hr
theorem o_istoreN (X : Stand p l e R s m args below meth c T locs cells slots) (K : OCx p s m meth c Z own nm bytes maxL ret) {k : Fin 4} {x x' : Int32} (hd : decode bytes pc = .ok (.istore_n k, 1)) (pc' : Nat) (hp : pc + 1 = pc') (Ls' : Array Slot) (hv : x = x') (hl : storeLocals Ls k.val (.int x') = some Ls') (hr : OGo p e below s n0 Q kc ks (T.setTop (mkF m pc' Ls' St))) : OGo p e below s n0 Q kc ks (T.setTop (mkF m pc Ls (.int x :: St))) := by
  subst hp
  exact OGo.st (fun _ k => XS.istoreN X.here K.hx rfl (hb K.hby hd) rfl (hv ▸ hl) k) hr
theorem o_lstore (X : Stand p l e R s m args below meth c T locs cells slots) (K : OCx p s m meth c Z own nm bytes maxL ret) {k : Nat} {x x' : Int64} (hd : decode bytes pc = .ok (.lstore k, 2)) (pc' : Nat) (hp : pc + 2 = pc') (Ls' : Array Slot) (hv : x = x') (hl : storeLocals Ls k (.long x') = some Ls') (hr : OGo p e below s n0 Q kc ks (T.setTop (mkF m pc' Ls' St))) : OGo p e below s n0 Q kc ks (T.setTop (mkF m pc Ls (.long x :: St))) := by
  subst hp
  exact OGo.st (fun _ k => XS.lstore X.here K.hx rfl (hb K.hby hd) rfl (hv ▸ hl) k) hr
theorem o_lstoreN (X : Stand p l e R s m args below meth c T locs cells slots) (K : OCx p s m meth c Z own nm bytes maxL ret) {k : Fin 4} {x x' : Int64} (hd : decode bytes pc = .ok (.lstore_n k, 1)) (pc' : Nat) (hp : pc + 1 = pc') (Ls' : Array Slot) (hv : x = x') (hl : storeLocals Ls k.val (.long x') = some Ls') (hr : OGo p e below s n0 Q kc ks (T.setTop (mkF m pc' Ls' St))) : OGo p e below s n0 Q kc ks (T.setTop (mkF m pc Ls (.long x :: St))) := by
  subst hp
  exact OGo.st (fun _ k => XS.lstoreN X.here K.hx rfl (hb K.hby hd) rfl (hv ▸ hl) k) hr
theorem o_astore (X : Stand p l e R s m args below meth c T locs cells slots) (K : OCx p s m meth c Z own nm bytes maxL ret) {k : Nat} {x : Value} (hd : decode bytes pc = .ok (.astore k, 2)) (pc' : Nat) (hp : pc + 2 = pc') (Ls' : Array Slot) (hv : x.isRef = true) (hl : storeLocals Ls k x = some Ls') (hr : OGo p e below s n0 Q kc ks (T.setTop (mkF m pc' Ls' St))) : OGo p e below s n0 Q kc ks (T.setTop (mkF m pc Ls (x :: St))) := by
  subst hp
  exact OGo.st (fun _ k => XS.astore X.here K.hx rfl (hb K.hby hd) rfl hv hl k) hr
theorem o_astoreN (X : Stand p l e R s m args below meth c T locs cells slots) (K : OCx p s m meth c Z own nm bytes maxL ret) {k : Fin 4} {x : Value} (hd : decode bytes pc = .ok (.astore_n k, 1)) (pc' : Nat) (hp : pc + 1 = pc') (Ls' : Array Slot) (hv : x.isRef = true) (hl : storeLocals Ls k.val x = some Ls') (hr : OGo p e below s n0 Q kc ks (T.setTop (mkF m pc' Ls' St))) : OGo p e below s n0 Q kc ks (T.setTop (mkF m pc Ls (x :: St))) := by
  subst hp
  exact OGo.st (fun _ k => XS.astoreN X.here K.hx rfl (hb K.hby hd) rfl hv hl k) hr
theorem o_iinc (X : Stand p l e R s m args below meth c T locs cells slots) (K : OCx p s m meth c Z own nm bytes maxL ret) {k : Nat} {cst : Int} {x x' : Int32} (hd : decode bytes pc = .ok (.iinc k cst, 3)) (pc' : Nat) (hp : pc + 3 = pc') (Ls' : Array Slot) (hl : Ls[k]? = some (.val (.int x))) (hv : x + Int32.ofInt cst = x') (hl' : storeLocals Ls k (.int x') = some Ls') (hr : OGo p e below s n0 Q kc ks (T.setTop (mkF m pc' Ls' St))) : OGo p e below s n0 Q kc ks (T.setTop (mkF m pc Ls St)) := by
  subst hp
  exact OGo.st (fun _ k => XS.iinc X.here K.hx rfl (hb K.hby hd) hl (hv ▸ hl') k) hr
theorem o_iconst (X : Stand p l e R s m args below meth c T locs cells slots) (K : OCx p s m meth c Z own nm bytes maxL ret) {i : Int} (v : Int32) (hd : decode bytes pc = .ok (.iconst i, 1)) (pc' : Nat) (hp : pc + 1 = pc') (hv : Int32.ofInt i = v) (hr : OGo p e below s n0 Q kc ks (T.setTop (mkF m pc' Ls (.int v :: St)))) : OGo p e below s n0 Q kc ks (T.setTop (mkF m pc Ls St)) := by
  subst hp
  exact OGo.st (fun _ k => XS.iconst X.here K.hx rfl (hb K.hby hd) (by rw [hv]; exact k)) hr
theorem o_bipush (X : Stand p l e R s m args below meth c T locs cells slots) (K : OCx p s m meth c Z own nm bytes maxL ret) {i : Int} (v : Int32) (hd : decode bytes pc = .ok (.bipush i, 2)) (pc' : Nat) (hp : pc + 2 = pc') (hv : (Int8.ofInt i).toInt32 = v) (hr : OGo p e below s n0 Q kc ks (T.setTop (mkF m pc' Ls (.int v :: St)))) : OGo p e below s n0 Q kc ks (T.setTop (mkF m pc Ls St)) := by
  subst hp
  exact OGo.st (fun _ k => XS.bipush X.here K.hx rfl (hb K.hby hd) (by rw [hv]; exact k)) hr
theorem o_sipush (X : Stand p l e R s m args below meth c T locs cells slots) (K : OCx p s m meth c Z own nm bytes maxL ret) {i : Int} (v : Int32) (hd : decode bytes pc = .ok (.sipush i, 3)) (pc' : Nat) (hp : pc + 3 = pc') (hv : (Int16.ofInt i).toInt32 = v) (hr : OGo p e below s n0 Q kc ks (T.setTop (mkF m pc' Ls (.int v :: St)))) : OGo p e below s n0 Q kc ks (T.setTop (mkF m pc Ls St)) := by
  subst hp
  exact OGo.st (fun _ k => XS.sipush X.here K.hx rfl (hb K.hby hd) (by rw [hv]; exact k)) hr
theorem o_lconst (X : Stand p l e R s m args below meth c T locs cells slots) (K : OCx p s m meth c Z own nm bytes maxL ret) {i : Fin 2} (v : Int64) (hd : decode bytes pc = .ok (.lconst i, 1)) (pc' : Nat) (hp : pc + 1 = pc') (hv : Int64.ofNat i = v) (hr : OGo p e below s n0 Q kc ks (T.setTop (mkF m pc' Ls (.long v :: St)))) : OGo p e below s n0 Q kc ks (T.setTop (mkF m pc Ls St)) := by
  subst hp
  exact OGo.st (fun _ k => XS.lconst X.here K.hx rfl (hb K.hby hd) (by rw [hv]; exact k)) hr
theorem o_aconst_null (X : Stand p l e R s m args below meth c T locs cells slots) (K : OCx p s m meth c Z own nm bytes maxL ret) (hd : decode bytes pc = .ok (.aconst_null, 1)) (pc' : Nat) (hp : pc + 1 = pc') (hr : OGo p e below s n0 Q kc ks (T.setTop (mkF m pc' Ls (.null :: St)))) : OGo p e below s n0 Q kc ks (T.setTop (mkF m pc Ls St)) := by
  subst hp
  exact OGo.st (fun _ k => XS.aconstNull X.here K.hx rfl (hb K.hby hd) k) hr
theorem o_ldcI (X : Stand p l e R s m args below meth c T locs cells slots) (K : OCx p s m meth c Z own nm bytes maxL ret) {index : Nat} {v : Int32} (hd : decode bytes pc = .ok (.ldc index, 2)) (pc' : Nat) (hp : pc + 2 = pc') (w : (Jvm.Cond.constant own index v).before a0 Z = true) (hr : OGo p e below s n0 Q kc ks (T.setTop (mkF m pc' Ls (.int v :: St)))) : OGo p e below s n0 Q kc ks (T.setTop (mkF m pc Ls St)) := by
  subst hp
  exact OGo.st (fun _ k => Stand.ldcI X K.hx K.hown (mvT K.hZ w) rfl (hb K.hby hd) k) hr
theorem o_ldcWI (X : Stand p l e R s m args below meth c T locs cells slots) (K : OCx p s m meth c Z own nm bytes maxL ret) {index : Nat} {v : Int32} (hd : decode bytes pc = .ok (.ldc_w index, 3)) (pc' : Nat) (hp : pc + 3 = pc') (w : (Jvm.Cond.constant own index v).before a0 Z = true) (hr : OGo p e below s n0 Q kc ks (T.setTop (mkF m pc' Ls (.int v :: St)))) : OGo p e below s n0 Q kc ks (T.setTop (mkF m pc Ls St)) := by
  subst hp
  exact OGo.st (fun _ k => Stand.ldcWI X K.hx K.hown (mvT K.hZ w) rfl (hb K.hby hd) k) hr
theorem o_ldc2J (X : Stand p l e R s m args below meth c T locs cells slots) (K : OCx p s m meth c Z own nm bytes maxL ret) {index : Nat} {v : Int64} (hd : decode bytes pc = .ok (.ldc2_w index, 3)) (pc' : Nat) (hp : pc + 3 = pc') (w : (Jvm.Cond.constantLong own index v).before a0 Z = true) (hr : OGo p e below s n0 Q kc ks (T.setTop (mkF m pc' Ls (.long v :: St)))) : OGo p e below s n0 Q kc ks (T.setTop (mkF m pc Ls St)) := by
  subst hp
  exact OGo.st (fun _ k => Stand.ldc2J X K.hx K.hown (mvT K.hZ w) rfl (hb K.hby hd) k) hr
theorem o_iadd (X : Stand p l e R s m args below meth c T locs cells slots) (K : OCx p s m meth c Z own nm bytes maxL ret) {x y : Int32} (hd : decode bytes pc = .ok (.iadd, 1)) (pc' : Nat) (hp : pc + 1 = pc') (hr : OGo p e below s n0 Q kc ks (T.setTop (mkF m pc' Ls (.int (x + y) :: St)))) : OGo p e below s n0 Q kc ks (T.setTop (mkF m pc Ls (.int y :: .int x :: St))) := by
  subst hp
  exact OGo.st (fun _ k => XS.iadd X.here K.hx rfl (hb K.hby hd) rfl k) hr
theorem o_isub (X : Stand p l e R s m args below meth c T locs cells slots) (K : OCx p s m meth c Z own nm bytes maxL ret) {x y : Int32} (hd : decode bytes pc = .ok (.isub, 1)) (pc' : Nat) (hp : pc + 1 = pc') (hr : OGo p e below s n0 Q kc ks (T.setTop (mkF m pc' Ls (.int (x - y) :: St)))) : OGo p e below s n0 Q kc ks (T.setTop (mkF m pc Ls (.int y :: .int x :: St))) := by
  subst hp
  exact OGo.st (fun _ k => XS.isub X.here K.hx rfl (hb K.hby hd) rfl k) hr
theorem o_imul (X : Stand p l e R s m args below meth c T locs cells slots) (K : OCx p s m meth c Z own nm bytes maxL ret) {x y : Int32} (hd : decode bytes pc = .ok (.imul, 1)) (pc' : Nat) (hp : pc + 1 = pc') (hr : OGo p e below s n0 Q kc ks (T.setTop (mkF m pc' Ls (.int (x * y) :: St)))) : OGo p e below s n0 Q kc ks (T.setTop (mkF m pc Ls (.int y :: .int x :: St))) := by
  subst hp
  exact OGo.st (fun _ k => XS.imul X.here K.hx rfl (hb K.hby hd) rfl k) hr
theorem o_iand (X : Stand p l e R s m args below meth c T locs cells slots) (K : OCx p s m meth c Z own nm bytes maxL ret) {x y : Int32} (hd : decode bytes pc = .ok (.iand, 1)) (pc' : Nat) (hp : pc + 1 = pc') (hr : OGo p e below s n0 Q kc ks (T.setTop (mkF m pc' Ls (.int (x &&& y) :: St)))) : OGo p e below s n0 Q kc ks (T.setTop (mkF m pc Ls (.int y :: .int x :: St))) := by
  subst hp
  exact OGo.st (fun _ k => XS.iand X.here K.hx rfl (hb K.hby hd) rfl k) hr
theorem o_ior (X : Stand p l e R s m args below meth c T locs cells slots) (K : OCx p s m meth c Z own nm bytes maxL ret) {x y : Int32} (hd : decode bytes pc = .ok (.ior, 1)) (pc' : Nat) (hp : pc + 1 = pc') (hr : OGo p e below s n0 Q kc ks (T.setTop (mkF m pc' Ls (.int (x ||| y) :: St)))) : OGo p e below s n0 Q kc ks (T.setTop (mkF m pc Ls (.int y :: .int x :: St))) := by
  subst hp
  exact OGo.st (fun _ k => XS.ior X.here K.hx rfl (hb K.hby hd) rfl k) hr
theorem o_ixor (X : Stand p l e R s m args below meth c T locs cells slots) (K : OCx p s m meth c Z own nm bytes maxL ret) {x y : Int32} (hd : decode bytes pc = .ok (.ixor, 1)) (pc' : Nat) (hp : pc + 1 = pc') (hr : OGo p e below s n0 Q kc ks (T.setTop (mkF m pc' Ls (.int (x ^^^ y) :: St)))) : OGo p e below s n0 Q kc ks (T.setTop (mkF m pc Ls (.int y :: .int x :: St))) := by
  subst hp
  exact OGo.st (fun _ k => XS.ixor X.here K.hx rfl (hb K.hby hd) rfl k) hr
theorem o_ishl (X : Stand p l e R s m args below meth c T locs cells slots) (K : OCx p s m meth c Z own nm bytes maxL ret) {x y : Int32} (hd : decode bytes pc = .ok (.ishl, 1)) (pc' : Nat) (hp : pc + 1 = pc') (hr : OGo p e below s n0 Q kc ks (T.setTop (mkF m pc' Ls (.int (x <<< (y &&& 31)) :: St)))) : OGo p e below s n0 Q kc ks (T.setTop (mkF m pc Ls (.int y :: .int x :: St))) := by
  subst hp
  exact OGo.st (fun _ k => XS.ishl X.here K.hx rfl (hb K.hby hd) rfl k) hr
theorem o_ishr (X : Stand p l e R s m args below meth c T locs cells slots) (K : OCx p s m meth c Z own nm bytes maxL ret) {x y : Int32} (hd : decode bytes pc = .ok (.ishr, 1)) (pc' : Nat) (hp : pc + 1 = pc') (hr : OGo p e below s n0 Q kc ks (T.setTop (mkF m pc' Ls (.int (x >>> (y &&& 31)) :: St)))) : OGo p e below s n0 Q kc ks (T.setTop (mkF m pc Ls (.int y :: .int x :: St))) := by
  subst hp
  exact OGo.st (fun _ k => XS.ishr X.here K.hx rfl (hb K.hby hd) rfl k) hr
theorem o_iushr (X : Stand p l e R s m args below meth c T locs cells slots) (K : OCx p s m meth c Z own nm bytes maxL ret) {x y : Int32} (hd : decode bytes pc = .ok (.iushr, 1)) (pc' : Nat) (hp : pc + 1 = pc') (hr : OGo p e below s n0 Q kc ks (T.setTop (mkF m pc' Ls (.int ((x.toUInt32 >>> (y &&& 31).toUInt32).toInt32) :: St)))) : OGo p e below s n0 Q kc ks (T.setTop (mkF m pc Ls (.int y :: .int x :: St))) := by
  subst hp
  exact OGo.st (fun _ k => XS.iushr X.here K.hx rfl (hb K.hby hd) rfl k) hr
theorem o_ladd (X : Stand p l e R s m args below meth c T locs cells slots) (K : OCx p s m meth c Z own nm bytes maxL ret) {x y : Int64} (hd : decode bytes pc = .ok (.ladd, 1)) (pc' : Nat) (hp : pc + 1 = pc') (hr : OGo p e below s n0 Q kc ks (T.setTop (mkF m pc' Ls (.long (x + y) :: St)))) : OGo p e below s n0 Q kc ks (T.setTop (mkF m pc Ls (.long y :: .long x :: St))) := by
  subst hp
  exact OGo.st (fun _ k => XS.ladd X.here K.hx rfl (hb K.hby hd) rfl k) hr
theorem o_lsub (X : Stand p l e R s m args below meth c T locs cells slots) (K : OCx p s m meth c Z own nm bytes maxL ret) {x y : Int64} (hd : decode bytes pc = .ok (.lsub, 1)) (pc' : Nat) (hp : pc + 1 = pc') (hr : OGo p e below s n0 Q kc ks (T.setTop (mkF m pc' Ls (.long (x - y) :: St)))) : OGo p e below s n0 Q kc ks (T.setTop (mkF m pc Ls (.long y :: .long x :: St))) := by
  subst hp
  exact OGo.st (fun _ k => XS.lsub X.here K.hx rfl (hb K.hby hd) rfl k) hr
theorem o_lmul (X : Stand p l e R s m args below meth c T locs cells slots) (K : OCx p s m meth c Z own nm bytes maxL ret) {x y : Int64} (hd : decode bytes pc = .ok (.lmul, 1)) (pc' : Nat) (hp : pc + 1 = pc') (hr : OGo p e below s n0 Q kc ks (T.setTop (mkF m pc' Ls (.long (x * y) :: St)))) : OGo p e below s n0 Q kc ks (T.setTop (mkF m pc Ls (.long y :: .long x :: St))) := by
  subst hp
  exact OGo.st (fun _ k => XS.lmul X.here K.hx rfl (hb K.hby hd) rfl k) hr
theorem o_land (X : Stand p l e R s m args below meth c T locs cells slots) (K : OCx p s m meth c Z own nm bytes maxL ret) {x y : Int64} (hd : decode bytes pc = .ok (.land, 1)) (pc' : Nat) (hp : pc + 1 = pc') (hr : OGo p e below s n0 Q kc ks (T.setTop (mkF m pc' Ls (.long (x &&& y) :: St)))) : OGo p e below s n0 Q kc ks (T.setTop (mkF m pc Ls (.long y :: .long x :: St))) := by
  subst hp
  exact OGo.st (fun _ k => XS.land X.here K.hx rfl (hb K.hby hd) rfl k) hr
theorem o_lor (X : Stand p l e R s m args below meth c T locs cells slots) (K : OCx p s m meth c Z own nm bytes maxL ret) {x y : Int64} (hd : decode bytes pc = .ok (.lor, 1)) (pc' : Nat) (hp : pc + 1 = pc') (hr : OGo p e below s n0 Q kc ks (T.setTop (mkF m pc' Ls (.long (x ||| y) :: St)))) : OGo p e below s n0 Q kc ks (T.setTop (mkF m pc Ls (.long y :: .long x :: St))) := by
  subst hp
  exact OGo.st (fun _ k => XS.lor X.here K.hx rfl (hb K.hby hd) rfl k) hr
theorem o_lxor (X : Stand p l e R s m args below meth c T locs cells slots) (K : OCx p s m meth c Z own nm bytes maxL ret) {x y : Int64} (hd : decode bytes pc = .ok (.lxor, 1)) (pc' : Nat) (hp : pc + 1 = pc') (hr : OGo p e below s n0 Q kc ks (T.setTop (mkF m pc' Ls (.long (x ^^^ y) :: St)))) : OGo p e below s n0 Q kc ks (T.setTop (mkF m pc Ls (.long y :: .long x :: St))) := by
  subst hp
  exact OGo.st (fun _ k => XS.lxor X.here K.hx rfl (hb K.hby hd) rfl k) hr
theorem o_lshl (X : Stand p l e R s m args below meth c T locs cells slots) (K : OCx p s m meth c Z own nm bytes maxL ret) {x : Int64} {y : Int32} (hd : decode bytes pc = .ok (.lshl, 1)) (pc' : Nat) (hp : pc + 1 = pc') (hr : OGo p e below s n0 Q kc ks (T.setTop (mkF m pc' Ls (.long (x <<< (y &&& 0x3f).toInt64) :: St)))) : OGo p e below s n0 Q kc ks (T.setTop (mkF m pc Ls (.int y :: .long x :: St))) := by
  subst hp
  exact OGo.st (fun _ k => XS.lshl X.here K.hx rfl (hb K.hby hd) rfl k) hr
theorem o_lshr (X : Stand p l e R s m args below meth c T locs cells slots) (K : OCx p s m meth c Z own nm bytes maxL ret) {x : Int64} {y : Int32} (hd : decode bytes pc = .ok (.lshr, 1)) (pc' : Nat) (hp : pc + 1 = pc') (hr : OGo p e below s n0 Q kc ks (T.setTop (mkF m pc' Ls (.long (x >>> (y &&& 0x3f).toInt64) :: St)))) : OGo p e below s n0 Q kc ks (T.setTop (mkF m pc Ls (.int y :: .long x :: St))) := by
  subst hp
  exact OGo.st (fun _ k => XS.lshr X.here K.hx rfl (hb K.hby hd) rfl k) hr
theorem o_lushr (X : Stand p l e R s m args below meth c T locs cells slots) (K : OCx p s m meth c Z own nm bytes maxL ret) {x : Int64} {y : Int32} (hd : decode bytes pc = .ok (.lushr, 1)) (pc' : Nat) (hp : pc + 1 = pc') (hr : OGo p e below s n0 Q kc ks (T.setTop (mkF m pc' Ls (.long ((x.toUInt64 >>> (y &&& 0x3f).toInt64.toUInt64).toInt64) :: St)))) : OGo p e below s n0 Q kc ks (T.setTop (mkF m pc Ls (.int y :: .long x :: St))) := by
  subst hp
  exact OGo.st (fun _ k => XS.lushr X.here K.hx rfl (hb K.hby hd) rfl k) hr
theorem o_ldiv (X : Stand p l e R s m args below meth c T locs cells slots) (K : OCx p s m meth c Z own nm bytes maxL ret) {x y : Int64} (hd : decode bytes pc = .ok (.ldiv, 1)) (pc' : Nat) (hp : pc + 1 = pc') (hy : y ≠ 0) (hr : OGo p e below s n0 Q kc ks (T.setTop (mkF m pc' Ls (.long (x / y) :: St)))) : OGo p e below s n0 Q kc ks (T.setTop (mkF m pc Ls (.long y :: .long x :: St))) := by
  subst hp
  exact OGo.st (fun _ k => XS.ldiv X.here K.hx rfl (hb K.hby hd) rfl hy k) hr
theorem o_idiv (X : Stand p l e R s m args below meth c T locs cells slots) (K : OCx p s m meth c Z own nm bytes maxL ret) {x y : Int32} (hd : decode bytes pc = .ok (.idiv, 1)) (pc' : Nat) (hp : pc + 1 = pc') (hy : y ≠ 0) (hr : OGo p e below s n0 Q kc ks (T.setTop (mkF m pc' Ls (.int (x / y) :: St)))) : OGo p e below s n0 Q kc ks (T.setTop (mkF m pc Ls (.int y :: .int x :: St))) := by
  subst hp
  exact OGo.st (fun _ k => XS.idiv X.here K.hx rfl (hb K.hby hd) rfl hy k) hr
theorem o_irem (X : Stand p l e R s m args below meth c T locs cells slots) (K : OCx p s m meth c Z own nm bytes maxL ret) {x y : Int32} (hd : decode bytes pc = .ok (.irem, 1)) (pc' : Nat) (hp : pc + 1 = pc') (hy : y ≠ 0) (hr : OGo p e below s n0 Q kc ks (T.setTop (mkF m pc' Ls (.int (x % y) :: St)))) : OGo p e below s n0 Q kc ks (T.setTop (mkF m pc Ls (.int y :: .int x :: St))) := by
  subst hp
  exact OGo.st (fun _ k => iremM X K.hx rfl (hb K.hby hd) rfl hy k) hr
theorem o_ineg (X : Stand p l e R s m args below meth c T locs cells slots) (K : OCx p s m meth c Z own nm bytes maxL ret) {x : Int32} (hd : decode bytes pc = .ok (.ineg, 1)) (pc' : Nat) (hp : pc + 1 = pc') (hr : OGo p e below s n0 Q kc ks (T.setTop (mkF m pc' Ls (.int (-x) :: St)))) : OGo p e below s n0 Q kc ks (T.setTop (mkF m pc Ls (.int x :: St))) := by
  subst hp
  exact OGo.st (fun _ k => XS.ineg X.here K.hx rfl (hb K.hby hd) rfl k) hr
theorem o_lneg (X : Stand p l e R s m args below meth c T locs cells slots) (K : OCx p s m meth c Z own nm bytes maxL ret) {x : Int64} (hd : decode bytes pc = .ok (.lneg, 1)) (pc' : Nat) (hp : pc + 1 = pc') (hr : OGo p e below s n0 Q kc ks (T.setTop (mkF m pc' Ls (.long (-x) :: St)))) : OGo p e below s n0 Q kc ks (T.setTop (mkF m pc Ls (.long x :: St))) := by
  subst hp
  exact OGo.st (fun _ k => XS.lneg X.here K.hx rfl (hb K.hby hd) rfl k) hr
theorem o_i2b (X : Stand p l e R s m args below meth c T locs cells slots) (K : OCx p s m meth c Z own nm bytes maxL ret) {x : Int32} (hd : decode bytes pc = .ok (.i2b, 1)) (pc' : Nat) (hp : pc + 1 = pc') (hr : OGo p e below s n0 Q kc ks (T.setTop (mkF m pc' Ls (.int (x.toInt8.toInt32) :: St)))) : OGo p e below s n0 Q kc ks (T.setTop (mkF m pc Ls (.int x :: St))) := by
  subst hp
  exact OGo.st (fun _ k => XS.i2b X.here K.hx rfl (hb K.hby hd) rfl k) hr
theorem o_i2c (X : Stand p l e R s m args below meth c T locs cells slots) (K : OCx p s m meth c Z own nm bytes maxL ret) {x : Int32} (hd : decode bytes pc = .ok (.i2c, 1)) (pc' : Nat) (hp : pc + 1 = pc') (hr : OGo p e below s n0 Q kc ks (T.setTop (mkF m pc' Ls (.int (x.toUInt32.toUInt16.toUInt32.toInt32) :: St)))) : OGo p e below s n0 Q kc ks (T.setTop (mkF m pc Ls (.int x :: St))) := by
  subst hp
  exact OGo.st (fun _ k => XS.i2c X.here K.hx rfl (hb K.hby hd) rfl k) hr
theorem o_i2s (X : Stand p l e R s m args below meth c T locs cells slots) (K : OCx p s m meth c Z own nm bytes maxL ret) {x : Int32} (hd : decode bytes pc = .ok (.i2s, 1)) (pc' : Nat) (hp : pc + 1 = pc') (hr : OGo p e below s n0 Q kc ks (T.setTop (mkF m pc' Ls (.int (x.toInt16.toInt32) :: St)))) : OGo p e below s n0 Q kc ks (T.setTop (mkF m pc Ls (.int x :: St))) := by
  subst hp
  exact OGo.st (fun _ k => XS.i2s X.here K.hx rfl (hb K.hby hd) rfl k) hr
theorem o_i2l (X : Stand p l e R s m args below meth c T locs cells slots) (K : OCx p s m meth c Z own nm bytes maxL ret) {x : Int32} (hd : decode bytes pc = .ok (.i2l, 1)) (pc' : Nat) (hp : pc + 1 = pc') (hr : OGo p e below s n0 Q kc ks (T.setTop (mkF m pc' Ls (.long (x.toInt64) :: St)))) : OGo p e below s n0 Q kc ks (T.setTop (mkF m pc Ls (.int x :: St))) := by
  subst hp
  exact OGo.st (fun _ k => XS.i2l X.here K.hx rfl (hb K.hby hd) rfl k) hr
theorem o_l2i (X : Stand p l e R s m args below meth c T locs cells slots) (K : OCx p s m meth c Z own nm bytes maxL ret) {x : Int64} (hd : decode bytes pc = .ok (.l2i, 1)) (pc' : Nat) (hp : pc + 1 = pc') (hr : OGo p e below s n0 Q kc ks (T.setTop (mkF m pc' Ls (.int (x.toInt32) :: St)))) : OGo p e below s n0 Q kc ks (T.setTop (mkF m pc Ls (.long x :: St))) := by
  subst hp
  exact OGo.st (fun _ k => XS.l2i X.here K.hx rfl (hb K.hby hd) rfl k) hr
theorem o_lcmp (X : Stand p l e R s m args below meth c T locs cells slots) (K : OCx p s m meth c Z own nm bytes maxL ret) {x y : Int64} (hd : decode bytes pc = .ok (.lcmp, 1)) (pc' : Nat) (hp : pc + 1 = pc') (hr : OGo p e below s n0 Q kc ks (T.setTop (mkF m pc' Ls (.int (lcmpW x y) :: St)))) : OGo p e below s n0 Q kc ks (T.setTop (mkF m pc Ls (.long y :: .long x :: St))) := by
  subst hp
  exact OGo.st (fun _ k => XS.lcmp X.here K.hx rfl (hb K.hby hd) rfl k) hr
theorem o_dup (X : Stand p l e R s m args below meth c T locs cells slots) (K : OCx p s m meth c Z own nm bytes maxL ret) {x : Value} (hd : decode bytes pc = .ok (.dup, 1)) (pc' : Nat) (hp : pc + 1 = pc') (hc : x.category = 1) (hr : OGo p e below s n0 Q kc ks (T.setTop (mkF m pc' Ls (x :: x :: St)))) : OGo p e below s n0 Q kc ks (T.setTop (mkF m pc Ls (x :: St))) := by
  subst hp
  exact OGo.st (fun _ k => XS.dup X.here K.hx rfl (hb K.hby hd) rfl hc k) hr
theorem o_pop (X : Stand p l e R s m args below meth c T locs cells slots) (K : OCx p s m meth c Z own nm bytes maxL ret) {x : Value} (hd : decode bytes pc = .ok (.pop, 1)) (pc' : Nat) (hp : pc + 1 = pc') (hc : x.category = 1) (hr : OGo p e below s n0 Q kc ks (T.setTop (mkF m pc' Ls St))) : OGo p e below s n0 Q kc ks (T.setTop (mkF m pc Ls (x :: St))) := by
  subst hp
  exact OGo.st (fun _ k => XS.pop X.here K.hx rfl (hb K.hby hd) rfl hc k) hr
theorem o_dupX1 (X : Stand p l e R s m args below meth c T locs cells slots) (K : OCx p s m meth c Z own nm bytes maxL ret) {x y : Value} (hd : decode bytes pc = .ok (.dup_x1, 1)) (pc' : Nat) (hp : pc + 1 = pc') (hc : x.category = 1) (hc' : y.category = 1) (hr : OGo p e below s n0 Q kc ks (T.setTop (mkF m pc' Ls (x :: y :: x :: St)))) : OGo p e below s n0 Q kc ks (T.setTop (mkF m pc Ls (x :: y :: St))) := by
  subst hp
  exact OGo.st (fun _ k => XS.dupX1 X.here K.hx rfl (hb K.hby hd) rfl hc hc' k) hr
theorem o_dup2 (X : Stand p l e R s m args below meth c T locs cells slots) (K : OCx p s m meth c Z own nm bytes maxL ret) {x y : Value} (hd : decode bytes pc = .ok (.dup2, 1)) (pc' : Nat) (hp : pc + 1 = pc') (hc : x.category = 1) (hc' : y.category = 1) (hr : OGo p e below s n0 Q kc ks (T.setTop (mkF m pc' Ls (x :: y :: x :: y :: St)))) : OGo p e below s n0 Q kc ks (T.setTop (mkF m pc Ls (x :: y :: St))) := by
  subst hp
  exact OGo.st (fun _ k => Jvm.Free.XT.dup2 X.here K.hx rfl (hb K.hby hd) rfl hc hc' k) hr
theorem o_dup2L (X : Stand p l e R s m args below meth c T locs cells slots) (K : OCx p s m meth c Z own nm bytes maxL ret) {x : Int64} (hd : decode bytes pc = .ok (.dup2, 1)) (pc' : Nat) (hp : pc + 1 = pc') (hr : OGo p e below s n0 Q kc ks (T.setTop (mkF m pc' Ls (.long x :: .long x :: St)))) : OGo p e below s n0 Q kc ks (T.setTop (mkF m pc Ls (.long x :: St))) := by
  subst hp
  exact OGo.st (fun _ k => Jvm.Free.XT.dup2L X.here K.hx rfl (hb K.hby hd) rfl k) hr
theorem o_goto (X : Stand p l e R s m args below meth c T locs cells slots) (K : OCx p s m meth c Z own nm bytes maxL ret) {o : Int} (hd : decode bytes pc = .ok (.goto o, 3)) (pc' : Nat) (ho : 0 ≤ (pc : Int) + o) (hp : ((pc : Int) + o).toNat = pc') (hr : OGo p e below s n0 Q kc ks (T.setTop (mkF m pc' Ls St))) : OGo p e below s n0 Q kc ks (T.setTop (mkF m pc Ls St)) :=
  OGo.st (fun _ k => XS.goto X.here K.hx rfl (pc0 := pc) rfl (hb K.hby hd) ho hp k) hr
theorem o_icmp_lt_t (X : Stand p l e R s m args below meth c T locs cells slots) (K : OCx p s m meth c Z own nm bytes maxL ret) {x y : Int32} {o : Int} (hd : decode bytes pc = .ok (.if_icmp .lt o, 3)) (pt : Nat) (ho : 0 ≤ (pc : Int) + o) (hp : ((pc : Int) + o).toNat = pt) (q : x.toInt < y.toInt) (hr : OGo p e below s n0 Q kc ks (T.setTop (mkF m pt Ls St))) : OGo p e below s n0 Q kc ks (T.setTop (mkF m pc Ls (.int y :: .int x :: St))) :=
  OGo.st (fun _ k => XS.icmpYes X.here K.hx rfl (pc0 := pc) rfl (hb K.hby hd) rfl ((tlt (Int32.lt_iff_toInt_lt.mpr q)).1) ho hp k) hr
theorem o_icmp_lt_f (X : Stand p l e R s m args below meth c T locs cells slots) (K : OCx p s m meth c Z own nm bytes maxL ret) {x y : Int32} {o : Int} (hd : decode bytes pc = .ok (.if_icmp .lt o, 3)) (pc' : Nat) (hp : pc + 3 = pc') (q : y.toInt ≤ x.toInt) (hr : OGo p e below s n0 Q kc ks (T.setTop (mkF m pc' Ls St))) : OGo p e below s n0 Q kc ks (T.setTop (mkF m pc Ls (.int y :: .int x :: St))) := by
  subst hp
  exact OGo.st (fun _ k => XS.icmpNo X.here K.hx rfl (hb K.hby hd) rfl ((flt (fun r => Int.not_lt.mpr q (Int32.lt_iff_toInt_lt.mp r))).1) k) hr
theorem o_icmp_lt (X : Stand p l e R s m args below meth c T locs cells slots) (K : OCx p s m meth c Z own nm bytes maxL ret) {x y : Int32} {o : Int} (hd : decode bytes pc = .ok (.if_icmp .lt o, 3)) (pt : Nat) (ho : 0 ≤ (pc : Int) + o) (hp : ((pc : Int) + o).toNat = pt) (pc' : Nat) (hp' : pc + 3 = pc') (h1 : x.toInt < y.toInt → OGo p e below s n0 Q kc ks (T.setTop (mkF m pt Ls St))) (h2 : y.toInt ≤ x.toInt → OGo p e below s n0 Q kc ks (T.setTop (mkF m pc' Ls St))) : OGo p e below s n0 Q kc ks (T.setTop (mkF m pc Ls (.int y :: .int x :: St))) :=
  (Classical.em (x.toInt < y.toInt)).elim (fun q => o_icmp_lt_t X K hd pt ho hp q (h1 q)) (fun q => o_icmp_lt_f X K hd pc' hp' (Int.not_lt.mp q) (h2 (Int.not_lt.mp q)))
theorem o_if_lt_t (X : Stand p l e R s m args below meth c T locs cells slots) (K : OCx p s m meth c Z own nm bytes maxL ret) {x : Int32} {o : Int} (hd : decode bytes pc = .ok (.ifCond .lt o, 3)) (pt : Nat) (ho : 0 ≤ (pc : Int) + o) (hp : ((pc : Int) + o).toNat = pt) (q : x.toInt < 0) (hr : OGo p e below s n0 Q kc ks (T.setTop (mkF m pt Ls St))) : OGo p e below s n0 Q kc ks (T.setTop (mkF m pc Ls (.int x :: St))) :=
  OGo.st (fun _ k => XS.ifYes X.here K.hx rfl (pc0 := pc) rfl (hb K.hby hd) rfl ((if0 _ _).trans (tlt (Int32.lt_iff_toInt_lt.mpr (show x.toInt < (0 : Int32).toInt from q))).1) ho hp k) hr
theorem o_if_lt_f (X : Stand p l e R s m args below meth c T locs cells slots) (K : OCx p s m meth c Z own nm bytes maxL ret) {x : Int32} {o : Int} (hd : decode bytes pc = .ok (.ifCond .lt o, 3)) (pc' : Nat) (hp : pc + 3 = pc') (q : 0 ≤ x.toInt) (hr : OGo p e below s n0 Q kc ks (T.setTop (mkF m pc' Ls St))) : OGo p e below s n0 Q kc ks (T.setTop (mkF m pc Ls (.int x :: St))) := by
  subst hp
  exact OGo.st (fun _ k => XS.ifNo X.here K.hx rfl (hb K.hby hd) rfl ((if0 _ _).trans (flt (fun r => Int.not_lt.mpr (show (0 : Int32).toInt ≤ x.toInt from q) (Int32.lt_iff_toInt_lt.mp r))).1) k) hr
theorem o_if_lt (X : Stand p l e R s m args below meth c T locs cells slots) (K : OCx p s m meth c Z own nm bytes maxL ret) {x : Int32} {o : Int} (hd : decode bytes pc = .ok (.ifCond .lt o, 3)) (pt : Nat) (ho : 0 ≤ (pc : Int) + o) (hp : ((pc : Int) + o).toNat = pt) (pc' : Nat) (hp' : pc + 3 = pc') (h1 : x.toInt < 0 → OGo p e below s n0 Q kc ks (T.setTop (mkF m pt Ls St))) (h2 : 0 ≤ x.toInt → OGo p e below s n0 Q kc ks (T.setTop (mkF m pc' Ls St))) : OGo p e below s n0 Q kc ks (T.setTop (mkF m pc Ls (.int x :: St))) :=
  (Classical.em (x.toInt < 0)).elim (fun q => o_if_lt_t X K hd pt ho hp q (h1 q)) (fun q => o_if_lt_f X K hd pc' hp' (Int.not_lt.mp q) (h2 (Int.not_lt.mp q)))
theorem o_icmp_ge_t (X : Stand p l e R s m args below meth c T locs cells slots) (K : OCx p s m meth c Z own nm bytes maxL ret) {x y : Int32} {o : Int} (hd : decode bytes pc = .ok (.if_icmp .ge o, 3)) (pt : Nat) (ho : 0 ≤ (pc : Int) + o) (hp : ((pc : Int) + o).toNat = pt) (q : y.toInt ≤ x.toInt) (hr : OGo p e below s n0 Q kc ks (T.setTop (mkF m pt Ls St))) : OGo p e below s n0 Q kc ks (T.setTop (mkF m pc Ls (.int y :: .int x :: St))) :=
  OGo.st (fun _ k => XS.icmpYes X.here K.hx rfl (pc0 := pc) rfl (hb K.hby hd) rfl ((flt (fun r => Int.not_lt.mpr q (Int32.lt_iff_toInt_lt.mp r))).2.1) ho hp k) hr
theorem o_icmp_ge_f (X : Stand p l e R s m args below meth c T locs cells slots) (K : OCx p s m meth c Z own nm bytes maxL ret) {x y : Int32} {o : Int} (hd : decode bytes pc = .ok (.if_icmp .ge o, 3)) (pc' : Nat) (hp : pc + 3 = pc') (q : x.toInt < y.toInt) (hr : OGo p e below s n0 Q kc ks (T.setTop (mkF m pc' Ls St))) : OGo p e below s n0 Q kc ks (T.setTop (mkF m pc Ls (.int y :: .int x :: St))) := by
  subst hp
  exact OGo.st (fun _ k => XS.icmpNo X.here K.hx rfl (hb K.hby hd) rfl ((tlt (Int32.lt_iff_toInt_lt.mpr q)).2.1) k) hr
theorem o_icmp_ge (X : Stand p l e R s m args below meth c T locs cells slots) (K : OCx p s m meth c Z own nm bytes maxL ret) {x y : Int32} {o : Int} (hd : decode bytes pc = .ok (.if_icmp .ge o, 3)) (pt : Nat) (ho : 0 ≤ (pc : Int) + o) (hp : ((pc : Int) + o).toNat = pt) (pc' : Nat) (hp' : pc + 3 = pc') (h1 : y.toInt ≤ x.toInt → OGo p e below s n0 Q kc ks (T.setTop (mkF m pt Ls St))) (h2 : x.toInt < y.toInt → OGo p e below s n0 Q kc ks (T.setTop (mkF m pc' Ls St))) : OGo p e below s n0 Q kc ks (T.setTop (mkF m pc Ls (.int y :: .int x :: St))) :=
  (Classical.em (y.toInt ≤ x.toInt)).elim (fun q => o_icmp_ge_t X K hd pt ho hp q (h1 q)) (fun q => o_icmp_ge_f X K hd pc' hp' (Int.not_le.mp q) (h2 (Int.not_le.mp q)))
theorem o_if_ge_t (X : Stand p l e R s m args below meth c T locs cells slots) (K : OCx p s m meth c Z own nm bytes maxL ret) {x : Int32} {o : Int} (hd : decode bytes pc = .ok (.ifCond .ge o, 3)) (pt : Nat) (ho : 0 ≤ (pc : Int) + o) (hp : ((pc : Int) + o).toNat = pt) (q : 0 ≤ x.toInt) (hr : OGo p e below s n0 Q kc ks (T.setTop (mkF m pt Ls St))) : OGo p e below s n0 Q kc ks (T.setTop (mkF m pc Ls (.int x :: St))) :=
  OGo.st (fun _ k => XS.ifYes X.here K.hx rfl (pc0 := pc) rfl (hb K.hby hd) rfl ((if0 _ _).trans (flt (fun r => Int.not_lt.mpr (show (0 : Int32).toInt ≤ x.toInt from q) (Int32.lt_iff_toInt_lt.mp r))).2.1) ho hp k) hr
theorem o_if_ge_f (X : Stand p l e R s m args below meth c T locs cells slots) (K : OCx p s m meth c Z own nm bytes maxL ret) {x : Int32} {o : Int} (hd : decode bytes pc = .ok (.ifCond .ge o, 3)) (pc' : Nat) (hp : pc + 3 = pc') (q : x.toInt < 0) (hr : OGo p e below s n0 Q kc ks (T.setTop (mkF m pc' Ls St))) : OGo p e below s n0 Q kc ks (T.setTop (mkF m pc Ls (.int x :: St))) := by
  subst hp
  exact OGo.st (fun _ k => XS.ifNo X.here K.hx rfl (hb K.hby hd) rfl ((if0 _ _).trans (tlt (Int32.lt_iff_toInt_lt.mpr (show x.toInt < (0 : Int32).toInt from q))).2.1) k) hr
theorem o_if_ge (X : Stand p l e R s m args below meth c T locs cells slots) (K : OCx p s m meth c Z own nm bytes maxL ret) {x : Int32} {o : Int} (hd : decode bytes pc = .ok (.ifCond .ge o, 3)) (pt : Nat) (ho : 0 ≤ (pc : Int) + o) (hp : ((pc : Int) + o).toNat = pt) (pc' : Nat) (hp' : pc + 3 = pc') (h1 : 0 ≤ x.toInt → OGo p e below s n0 Q kc ks (T.setTop (mkF m pt Ls St))) (h2 : x.toInt < 0 → OGo p e below s n0 Q kc ks (T.setTop (mkF m pc' Ls St))) : OGo p e below s n0 Q kc ks (T.setTop (mkF m pc Ls (.int x :: St))) :=
  (Classical.em (0 ≤ x.toInt)).elim (fun q => o_if_ge_t X K hd pt ho hp q (h1 q)) (fun q => o_if_ge_f X K hd pc' hp' (Int.not_le.mp q) (h2 (Int.not_le.mp q)))
theorem o_icmp_gt_t (X : Stand p l e R s m args below meth c T locs cells slots) (K : OCx p s m meth c Z own nm bytes maxL ret) {x y : Int32} {o : Int} (hd : decode bytes pc = .ok (.if_icmp .gt o, 3)) (pt : Nat) (ho : 0 ≤ (pc : Int) + o) (hp : ((pc : Int) + o).toNat = pt) (q : y.toInt < x.toInt) (hr : OGo p e below s n0 Q kc ks (T.setTop (mkF m pt Ls St))) : OGo p e below s n0 Q kc ks (T.setTop (mkF m pc Ls (.int y :: .int x :: St))) :=
  OGo.st (fun _ k => XS.icmpYes X.here K.hx rfl (pc0 := pc) rfl (hb K.hby hd) rfl ((tlt (Int32.lt_iff_toInt_lt.mpr q)).2.2.1) ho hp k) hr
theorem o_icmp_gt_f (X : Stand p l e R s m args below meth c T locs cells slots) (K : OCx p s m meth c Z own nm bytes maxL ret) {x y : Int32} {o : Int} (hd : decode bytes pc = .ok (.if_icmp .gt o, 3)) (pc' : Nat) (hp : pc + 3 = pc') (q : x.toInt ≤ y.toInt) (hr : OGo p e below s n0 Q kc ks (T.setTop (mkF m pc' Ls St))) : OGo p e below s n0 Q kc ks (T.setTop (mkF m pc Ls (.int y :: .int x :: St))) := by
  subst hp
  exact OGo.st (fun _ k => XS.icmpNo X.here K.hx rfl (hb K.hby hd) rfl ((flt (fun r => Int.not_lt.mpr q (Int32.lt_iff_toInt_lt.mp r))).2.2.1) k) hr
theorem o_icmp_gt (X : Stand p l e R s m args below meth c T locs cells slots) (K : OCx p s m meth c Z own nm bytes maxL ret) {x y : Int32} {o : Int} (hd : decode bytes pc = .ok (.if_icmp .gt o, 3)) (pt : Nat) (ho : 0 ≤ (pc : Int) + o) (hp : ((pc : Int) + o).toNat = pt) (pc' : Nat) (hp' : pc + 3 = pc') (h1 : y.toInt < x.toInt → OGo p e below s n0 Q kc ks (T.setTop (mkF m pt Ls St))) (h2 : x.toInt ≤ y.toInt → OGo p e below s n0 Q kc ks (T.setTop (mkF m pc' Ls St))) : OGo p e below s n0 Q kc ks (T.setTop (mkF m pc Ls (.int y :: .int x :: St))) :=
  (Classical.em (y.toInt < x.toInt)).elim (fun q => o_icmp_gt_t X K hd pt ho hp q (h1 q)) (fun q => o_icmp_gt_f X K hd pc' hp' (Int.not_lt.mp q) (h2 (Int.not_lt.mp q)))
theorem o_if_gt_t (X : Stand p l e R s m args below meth c T locs cells slots) (K : OCx p s m meth c Z own nm bytes maxL ret) {x : Int32} {o : Int} (hd : decode bytes pc = .ok (.ifCond .gt o, 3)) (pt : Nat) (ho : 0 ≤ (pc : Int) + o) (hp : ((pc : Int) + o).toNat = pt) (q : 0 < x.toInt) (hr : OGo p e below s n0 Q kc ks (T.setTop (mkF m pt Ls St))) : OGo p e below s n0 Q kc ks (T.setTop (mkF m pc Ls (.int x :: St))) :=
  OGo.st (fun _ k => XS.ifYes X.here K.hx rfl (pc0 := pc) rfl (hb K.hby hd) rfl ((if0 _ _).trans (tlt (Int32.lt_iff_toInt_lt.mpr (show (0 : Int32).toInt < x.toInt from q))).2.2.1) ho hp k) hr
theorem o_if_gt_f (X : Stand p l e R s m args below meth c T locs cells slots) (K : OCx p s m meth c Z own nm bytes maxL ret) {x : Int32} {o : Int} (hd : decode bytes pc = .ok (.ifCond .gt o, 3)) (pc' : Nat) (hp : pc + 3 = pc') (q : x.toInt ≤ 0) (hr : OGo p e below s n0 Q kc ks (T.setTop (mkF m pc' Ls St))) : OGo p e below s n0 Q kc ks (T.setTop (mkF m pc Ls (.int x :: St))) := by
  subst hp
  exact OGo.st (fun _ k => XS.ifNo X.here K.hx rfl (hb K.hby hd) rfl ((if0 _ _).trans (flt (fun r => Int.not_lt.mpr (show x.toInt ≤ (0 : Int32).toInt from q) (Int32.lt_iff_toInt_lt.mp r))).2.2.1) k) hr
theorem o_if_gt (X : Stand p l e R s m args below meth c T locs cells slots) (K : OCx p s m meth c Z own nm bytes maxL ret) {x : Int32} {o : Int} (hd : decode bytes pc = .ok (.ifCond .gt o, 3)) (pt : Nat) (ho : 0 ≤ (pc : Int) + o) (hp : ((pc : Int) + o).toNat = pt) (pc' : Nat) (hp' : pc + 3 = pc') (h1 : 0 < x.toInt → OGo p e below s n0 Q kc ks (T.setTop (mkF m pt Ls St))) (h2 : x.toInt ≤ 0 → OGo p e below s n0 Q kc ks (T.setTop (mkF m pc' Ls St))) : OGo p e below s n0 Q kc ks (T.setTop (mkF m pc Ls (.int x :: St))) :=
  (Classical.em (0 < x.toInt)).elim (fun q => o_if_gt_t X K hd pt ho hp q (h1 q)) (fun q => o_if_gt_f X K hd pc' hp' (Int.not_lt.mp q) (h2 (Int.not_lt.mp q)))
theorem o_icmp_le_t (X : Stand p l e R s m args below meth c T locs cells slots) (K : OCx p s m meth c Z own nm bytes maxL ret) {x y : Int32} {o : Int} (hd : decode bytes pc = .ok (.if_icmp .le o, 3)) (pt : Nat) (ho : 0 ≤ (pc : Int) + o) (hp : ((pc : Int) + o).toNat = pt) (q : x.toInt ≤ y.toInt) (hr : OGo p e below s n0 Q kc ks (T.setTop (mkF m pt Ls St))) : OGo p e below s n0 Q kc ks (T.setTop (mkF m pc Ls (.int y :: .int x :: St))) :=
  OGo.st (fun _ k => XS.icmpYes X.here K.hx rfl (pc0 := pc) rfl (hb K.hby hd) rfl ((flt (fun r => Int.not_lt.mpr q (Int32.lt_iff_toInt_lt.mp r))).2.2.2) ho hp k) hr
theorem o_icmp_le_f (X : Stand p l e R s m args below meth c T locs cells slots) (K : OCx p s m meth c Z own nm bytes maxL ret) {x y : Int32} {o : Int} (hd : decode bytes pc = .ok (.if_icmp .le o, 3)) (pc' : Nat) (hp : pc + 3 = pc') (q : y.toInt < x.toInt) (hr : OGo p e below s n0 Q kc ks (T.setTop (mkF m pc' Ls St))) : OGo p e below s n0 Q kc ks (T.setTop (mkF m pc Ls (.int y :: .int x :: St))) := by
  subst hp
  exact OGo.st (fun _ k => XS.icmpNo X.here K.hx rfl (hb K.hby hd) rfl ((tlt (Int32.lt_iff_toInt_lt.mpr q)).2.2.2) k) hr
theorem o_icmp_le (X : Stand p l e R s m args below meth c T locs cells slots) (K : OCx p s m meth c Z own nm bytes maxL ret) {x y : Int32} {o : Int} (hd : decode bytes pc = .ok (.if_icmp .le o, 3)) (pt : Nat) (ho : 0 ≤ (pc : Int) + o) (hp : ((pc : Int) + o).toNat = pt) (pc' : Nat) (hp' : pc + 3 = pc') (h1 : x.toInt ≤ y.toInt → OGo p e below s n0 Q kc ks (T.setTop (mkF m pt Ls St))) (h2 : y.toInt < x.toInt → OGo p e below s n0 Q kc ks (T.setTop (mkF m pc' Ls St))) : OGo p e below s n0 Q kc ks (T.setTop (mkF m pc Ls (.int y :: .int x :: St))) :=
  (Classical.em (x.toInt ≤ y.toInt)).elim (fun q => o_icmp_le_t X K hd pt ho hp q (h1 q)) (fun q => o_icmp_le_f X K hd pc' hp' (Int.not_le.mp q) (h2 (Int.not_le.mp q)))
theorem o_if_le_t (X : Stand p l e R s m args below meth c T locs cells slots) (K : OCx p s m meth c Z own nm bytes maxL ret) {x : Int32} {o : Int} (hd : decode bytes pc = .ok (.ifCond .le o, 3)) (pt : Nat) (ho : 0 ≤ (pc : Int) + o) (hp : ((pc : Int) + o).toNat = pt) (q : x.toInt ≤ 0) (hr : OGo p e below s n0 Q kc ks (T.setTop (mkF m pt Ls St))) : OGo p e below s n0 Q kc ks (T.setTop (mkF m pc Ls (.int x :: St))) :=
  OGo.st (fun _ k => XS.ifYes X.here K.hx rfl (pc0 := pc) rfl (hb K.hby hd) rfl ((if0 _ _).trans (flt (fun r => Int.not_lt.mpr (show x.toInt ≤ (0 : Int32).toInt from q) (Int32.lt_iff_toInt_lt.mp r))).2.2.2) ho hp k) hr
theorem o_if_le_f (X : Stand p l e R s m args below meth c T locs cells slots) (K : OCx p s m meth c Z own nm bytes maxL ret) {x : Int32} {o : Int} (hd : decode bytes pc = .ok (.ifCond .le o, 3)) (pc' : Nat) (hp : pc + 3 = pc') (q : 0 < x.toInt) (hr : OGo p e below s n0 Q kc ks (T.setTop (mkF m pc' Ls St))) : OGo p e below s n0 Q kc ks (T.setTop (mkF m pc Ls (.int x :: St))) := by
  subst hp
  exact OGo.st (fun _ k => XS.ifNo X.here K.hx rfl (hb K.hby hd) rfl ((if0 _ _).trans (tlt (Int32.lt_iff_toInt_lt.mpr (show (0 : Int32).toInt < x.toInt from q))).2.2.2) k) hr
theorem o_if_le (X : Stand p l e R s m args below meth c T locs cells slots) (K : OCx p s m meth c Z own nm bytes maxL ret) {x : Int32} {o : Int} (hd : decode bytes pc = .ok (.ifCond .le o, 3)) (pt : Nat) (ho : 0 ≤ (pc : Int) + o) (hp : ((pc : Int) + o).toNat = pt) (pc' : Nat) (hp' : pc + 3 = pc') (h1 : x.toInt ≤ 0 → OGo p e below s n0 Q kc ks (T.setTop (mkF m pt Ls St))) (h2 : 0 < x.toInt → OGo p e below s n0 Q kc ks (T.setTop (mkF m pc' Ls St))) : OGo p e below s n0 Q kc ks (T.setTop (mkF m pc Ls (.int x :: St))) :=
  (Classical.em (x.toInt ≤ 0)).elim (fun q => o_if_le_t X K hd pt ho hp q (h1 q)) (fun q => o_if_le_f X K hd pc' hp' (Int.not_le.mp q) (h2 (Int.not_le.mp q)))
theorem o_icmp_eq_t (X : Stand p l e R s m args below meth c T locs cells slots) (K : OCx p s m meth c Z own nm bytes maxL ret) {x y : Int32} {o : Int} (hd : decode bytes pc = .ok (.if_icmp .eq o, 3)) (pt : Nat) (ho : 0 ≤ (pc : Int) + o) (hp : ((pc : Int) + o).toNat = pt) (q : x = y) (hr : OGo p e below s n0 Q kc ks (T.setTop (mkF m pt Ls St))) : OGo p e below s n0 Q kc ks (T.setTop (mkF m pc Ls (.int y :: .int x :: St))) :=
  OGo.st (fun _ k => XS.icmpYes X.here K.hx rfl (pc0 := pc) rfl (hb K.hby hd) rfl ((teq q).1) ho hp k) hr
theorem o_icmp_eq_f (X : Stand p l e R s m args below meth c T locs cells slots) (K : OCx p s m meth c Z own nm bytes maxL ret) {x y : Int32} {o : Int} (hd : decode bytes pc = .ok (.if_icmp .eq o, 3)) (pc' : Nat) (hp : pc + 3 = pc') (q : ¬ x = y) (hr : OGo p e below s n0 Q kc ks (T.setTop (mkF m pc' Ls St))) : OGo p e below s n0 Q kc ks (T.setTop (mkF m pc Ls (.int y :: .int x :: St))) := by
  subst hp
  exact OGo.st (fun _ k => XS.icmpNo X.here K.hx rfl (hb K.hby hd) rfl ((feq q).1) k) hr
theorem o_icmp_eq (X : Stand p l e R s m args below meth c T locs cells slots) (K : OCx p s m meth c Z own nm bytes maxL ret) {x y : Int32} {o : Int} (hd : decode bytes pc = .ok (.if_icmp .eq o, 3)) (pt : Nat) (ho : 0 ≤ (pc : Int) + o) (hp : ((pc : Int) + o).toNat = pt) (pc' : Nat) (hp' : pc + 3 = pc') (h1 : x = y → OGo p e below s n0 Q kc ks (T.setTop (mkF m pt Ls St))) (h2 : ¬ x = y → OGo p e below s n0 Q kc ks (T.setTop (mkF m pc' Ls St))) : OGo p e below s n0 Q kc ks (T.setTop (mkF m pc Ls (.int y :: .int x :: St))) :=
  (Classical.em (x = y)).elim (fun q => o_icmp_eq_t X K hd pt ho hp q (h1 q)) (fun q => o_icmp_eq_f X K hd pc' hp' (id q) (h2 (id q)))
theorem o_if_eq_t (X : Stand p l e R s m args below meth c T locs cells slots) (K : OCx p s m meth c Z own nm bytes maxL ret) {x : Int32} {o : Int} (hd : decode bytes pc = .ok (.ifCond .eq o, 3)) (pt : Nat) (ho : 0 ≤ (pc : Int) + o) (hp : ((pc : Int) + o).toNat = pt) (q : x = 0) (hr : OGo p e below s n0 Q kc ks (T.setTop (mkF m pt Ls St))) : OGo p e below s n0 Q kc ks (T.setTop (mkF m pc Ls (.int x :: St))) :=
  OGo.st (fun _ k => XS.ifYes X.here K.hx rfl (pc0 := pc) rfl (hb K.hby hd) rfl ((if0 _ _).trans (teq (show x = (0 : Int32) from q)).1) ho hp k) hr
theorem o_if_eq_f (X : Stand p l e R s m args below meth c T locs cells slots) (K : OCx p s m meth c Z own nm bytes maxL ret) {x : Int32} {o : Int} (hd : decode bytes pc = .ok (.ifCond .eq o, 3)) (pc' : Nat) (hp : pc + 3 = pc') (q : ¬ x = 0) (hr : OGo p e below s n0 Q kc ks (T.setTop (mkF m pc' Ls St))) : OGo p e below s n0 Q kc ks (T.setTop (mkF m pc Ls (.int x :: St))) := by
  subst hp
  exact OGo.st (fun _ k => XS.ifNo X.here K.hx rfl (hb K.hby hd) rfl ((if0 _ _).trans (feq (show ¬ x = (0 : Int32) from q)).1) k) hr
theorem o_if_eq (X : Stand p l e R s m args below meth c T locs cells slots) (K : OCx p s m meth c Z own nm bytes maxL ret) {x : Int32} {o : Int} (hd : decode bytes pc = .ok (.ifCond .eq o, 3)) (pt : Nat) (ho : 0 ≤ (pc : Int) + o) (hp : ((pc : Int) + o).toNat = pt) (pc' : Nat) (hp' : pc + 3 = pc') (h1 : x = 0 → OGo p e below s n0 Q kc ks (T.setTop (mkF m pt Ls St))) (h2 : ¬ x = 0 → OGo p e below s n0 Q kc ks (T.setTop (mkF m pc' Ls St))) : OGo p e below s n0 Q kc ks (T.setTop (mkF m pc Ls (.int x :: St))) :=
  (Classical.em (x = 0)).elim (fun q => o_if_eq_t X K hd pt ho hp q (h1 q)) (fun q => o_if_eq_f X K hd pc' hp' (id q) (h2 (id q)))
theorem o_icmp_ne_t (X : Stand p l e R s m args below meth c T locs cells slots) (K : OCx p s m meth c Z own nm bytes maxL ret) {x y : Int32} {o : Int} (hd : decode bytes pc = .ok (.if_icmp .ne o, 3)) (pt : Nat) (ho : 0 ≤ (pc : Int) + o) (hp : ((pc : Int) + o).toNat = pt) (q : ¬ x = y) (hr : OGo p e below s n0 Q kc ks (T.setTop (mkF m pt Ls St))) : OGo p e below s n0 Q kc ks (T.setTop (mkF m pc Ls (.int y :: .int x :: St))) :=
  OGo.st (fun _ k => XS.icmpYes X.here K.hx rfl (pc0 := pc) rfl (hb K.hby hd) rfl ((feq q).2) ho hp k) hr
theorem o_icmp_ne_f (X : Stand p l e R s m args below meth c T locs cells slots) (K : OCx p s m meth c Z own nm bytes maxL ret) {x y : Int32} {o : Int} (hd : decode bytes pc = .ok (.if_icmp .ne o, 3)) (pc' : Nat) (hp : pc + 3 = pc') (q : x = y) (hr : OGo p e below s n0 Q kc ks (T.setTop (mkF m pc' Ls St))) : OGo p e below s n0 Q kc ks (T.setTop (mkF m pc Ls (.int y :: .int x :: St))) := by
  subst hp
  exact OGo.st (fun _ k => XS.icmpNo X.here K.hx rfl (hb K.hby hd) rfl ((teq q).2) k) hr
theorem o_icmp_ne (X : Stand p l e R s m args below meth c T locs cells slots) (K : OCx p s m meth c Z own nm bytes maxL ret) {x y : Int32} {o : Int} (hd : decode bytes pc = .ok (.if_icmp .ne o, 3)) (pt : Nat) (ho : 0 ≤ (pc : Int) + o) (hp : ((pc : Int) + o).toNat = pt) (pc' : Nat) (hp' : pc + 3 = pc') (h1 : ¬ x = y → OGo p e below s n0 Q kc ks (T.setTop (mkF m pt Ls St))) (h2 : x = y → OGo p e below s n0 Q kc ks (T.setTop (mkF m pc' Ls St))) : OGo p e below s n0 Q kc ks (T.setTop (mkF m pc Ls (.int y :: .int x :: St))) :=
  (Classical.em (¬ x = y)).elim (fun q => o_icmp_ne_t X K hd pt ho hp q (h1 q)) (fun q => o_icmp_ne_f X K hd pc' hp' (Classical.not_not.mp q) (h2 (Classical.not_not.mp q)))
theorem o_if_ne_t (X : Stand p l e R s m args below meth c T locs cells slots) (K : OCx p s m meth c Z own nm bytes maxL ret) {x : Int32} {o : Int} (hd : decode bytes pc = .ok (.ifCond .ne o, 3)) (pt : Nat) (ho : 0 ≤ (pc : Int) + o) (hp : ((pc : Int) + o).toNat = pt) (q : ¬ x = 0) (hr : OGo p e below s n0 Q kc ks (T.setTop (mkF m pt Ls St))) : OGo p e below s n0 Q kc ks (T.setTop (mkF m pc Ls (.int x :: St))) :=
  OGo.st (fun _ k => XS.ifYes X.here K.hx rfl (pc0 := pc) rfl (hb K.hby hd) rfl ((if0 _ _).trans (feq (show ¬ x = (0 : Int32) from q)).2) ho hp k) hr
theorem o_if_ne_f (X : Stand p l e R s m args below meth c T locs cells slots) (K : OCx p s m meth c Z own nm bytes maxL ret) {x : Int32} {o : Int} (hd : decode bytes pc = .ok (.ifCond .ne o, 3)) (pc' : Nat) (hp : pc + 3 = pc') (q : x = 0) (hr : OGo p e below s n0 Q kc ks (T.setTop (mkF m pc' Ls St))) : OGo p e below s n0 Q kc ks (T.setTop (mkF m pc Ls (.int x :: St))) := by
  subst hp
  exact OGo.st (fun _ k => XS.ifNo X.here K.hx rfl (hb K.hby hd) rfl ((if0 _ _).trans (teq (show x = (0 : Int32) from q)).2) k) hr
theorem o_if_ne (X : Stand p l e R s m args below meth c T locs cells slots) (K : OCx p s m meth c Z own nm bytes maxL ret) {x : Int32} {o : Int} (hd : decode bytes pc = .ok (.ifCond .ne o, 3)) (pt : Nat) (ho : 0 ≤ (pc : Int) + o) (hp : ((pc : Int) + o).toNat = pt) (pc' : Nat) (hp' : pc + 3 = pc') (h1 : ¬ x = 0 → OGo p e below s n0 Q kc ks (T.setTop (mkF m pt Ls St))) (h2 : x = 0 → OGo p e below s n0 Q kc ks (T.setTop (mkF m pc' Ls St))) : OGo p e below s n0 Q kc ks (T.setTop (mkF m pc Ls (.int x :: St))) :=
  (Classical.em (¬ x = 0)).elim (fun q => o_if_ne_t X K hd pt ho hp q (h1 q)) (fun q => o_if_ne_f X K hd pc' hp' (Classical.not_not.mp q) (h2 (Classical.not_not.mp q)))
theorem o_lw_lt {x y : Int64} : (lcmpW x y).toInt < 0 ↔ x.toInt < y.toInt := by
  have q := lw_lt x y
  rw [Int32.lt_iff_toInt_lt, Int64.lt_iff_toInt_lt] at q
  exact q
theorem o_lw_gt {x y : Int64} : 0 < (lcmpW x y).toInt ↔ y.toInt < x.toInt := by
  have q := lw_gt x y
  rw [Int32.lt_iff_toInt_lt, Int64.lt_iff_toInt_lt] at q
  exact q
theorem o_lw_le {x y : Int64} : (lcmpW x y).toInt ≤ 0 ↔ x.toInt ≤ y.toInt := by
  have q := @o_lw_gt x y
  omega
theorem o_lw_ge {x y : Int64} : 0 ≤ (lcmpW x y).toInt ↔ y.toInt ≤ x.toInt := by
  have q := @o_lw_lt x y
  omega
theorem o_lw_eq {x y : Int64} : lcmpW x y = 0 ↔ x = y := lw_eq x y
theorem o_ifnull_t (X : Stand p l e R s m args below meth c T locs cells slots) (K : OCx p s m meth c Z own nm bytes maxL ret) {o : Int} (hd : decode bytes pc = .ok (.ifnull o, 3)) (pt : Nat) (ho : 0 ≤ (pc : Int) + o) (hp : ((pc : Int) + o).toNat = pt) (hr : OGo p e below s n0 Q kc ks (T.setTop (mkF m pt Ls St))) : OGo p e below s n0 Q kc ks (T.setTop (mkF m pc Ls (.null :: St))) :=
  OGo.st (fun _ k => XS.ifnullYes X.here K.hx rfl (pc0 := pc) rfl (hb K.hby hd) rfl ho hp k) hr
theorem o_ifnull_f (X : Stand p l e R s m args below meth c T locs cells slots) (K : OCx p s m meth c Z own nm bytes maxL ret) {o : Int} {b : Addr} (hd : decode bytes pc = .ok (.ifnull o, 3)) (pc' : Nat) (hp : pc + 3 = pc') (hr : OGo p e below s n0 Q kc ks (T.setTop (mkF m pc' Ls St))) : OGo p e below s n0 Q kc ks (T.setTop (mkF m pc Ls (.ref b :: St))) := by
  subst hp
  exact OGo.st (fun _ k => XS.ifnullNo X.here K.hx rfl (hb K.hby hd) rfl k) hr
theorem o_ifnonnull_t (X : Stand p l e R s m args below meth c T locs cells slots) (K : OCx p s m meth c Z own nm bytes maxL ret) {o : Int} {b : Addr} (hd : decode bytes pc = .ok (.ifnonnull o, 3)) (pt : Nat) (ho : 0 ≤ (pc : Int) + o) (hp : ((pc : Int) + o).toNat = pt) (hr : OGo p e below s n0 Q kc ks (T.setTop (mkF m pt Ls St))) : OGo p e below s n0 Q kc ks (T.setTop (mkF m pc Ls (.ref b :: St))) :=
  OGo.st (fun _ k => XS.ifnonnullYes X.here K.hx rfl (pc0 := pc) rfl (hb K.hby hd) rfl ho hp k) hr
theorem o_ifnonnull_f (X : Stand p l e R s m args below meth c T locs cells slots) (K : OCx p s m meth c Z own nm bytes maxL ret) {o : Int} (hd : decode bytes pc = .ok (.ifnonnull o, 3)) (pc' : Nat) (hp : pc + 3 = pc') (hr : OGo p e below s n0 Q kc ks (T.setTop (mkF m pc' Ls St))) : OGo p e below s n0 Q kc ks (T.setTop (mkF m pc Ls (.null :: St))) := by
  subst hp
  exact OGo.st (fun _ k => XS.ifnonnullNo X.here K.hx rfl (hb K.hby hd) rfl k) hr
theorem o_acmp (X : Stand p l e R s m args below meth c T locs cells slots) (K : OCx p s m meth c Z own nm bytes maxL ret) {cd : ACond} {x y : Value} {o : Int} (hd : decode bytes pc = .ok (.if_acmp cd o, 3)) (pc' : Nat) (h1 : x.isRef = true) (h2 : y.isRef = true) (same : Bool) (hq : decide (x = y) = same) (ho : 0 ≤ (pc : Int) + o) (hp : pc' = if acV cd same = true then ((pc : Int) + o).toNat else pc + 3) (hr : OGo p e below s n0 Q kc ks (T.setTop (mkF m pc' Ls St))) : OGo p e below s n0 Q kc ks (T.setTop (mkF m pc Ls (y :: x :: St))) :=
  OGo.st (fun _ k => Jvm.RoadKit.acmp (g := mkF m pc Ls (y :: x :: St)) X K.hx rfl h1 h2 (pc0 := pc) rfl (hb K.hby hd) rfl hq ho hp k) hr
theorem o_leave (X : Stand p l e R s m args below meth c T locs cells slots) (hlk : meth.locks = false) {v : Option Value} (hv : meth.sig.returnType = none → v = none) {S : State} (hc : cells ≤ kc) (hs : slots ≤ ks) (N : Fr n0 locs) (hQ : Q v T.heap)
    (k : ∀ fs, (∀ (f : JFrame) (acts : List Action), f.method = m → f.locked = none → f.entered = [] → (doReturn e (T.setTop f) acts v).1 = T.setFrames fs) → Steps p.tables e below S (T.setFrames fs)) : OGo p e below s n0 Q kc ks S := by
  obtain ⟨fs, hr, hrun, hended, hW, hsame⟩ := X.leave (v := v) hv
  exact ⟨_, _, k fs hr, hrun, hended, v, locs, rfl, ⟨hQ, N⟩, ⟨v, rfl⟩, hW, hsame.mono hc hs⟩
theorem o_ireturn (X : Stand p l e R s m args below meth c T locs cells slots) (K : OCx p s m meth c Z own nm bytes maxL (some .int)) {z : Int32} (hd : decode bytes pc = .ok (.ireturn, 1)) (hc : cells ≤ kc) (hs : slots ≤ ks) (N : Fr n0 locs) (hQ : Q (some (.int z)) T.heap) : OGo p e below s n0 Q kc ks (T.setTop (mkF m pc Ls (.int z :: St))) :=
  o_leave X K.hlk (fun h => by rw [K.hret] at h; cases h) hc hs N hQ (fun fs hr => retI X K.hx K.hret (hb K.hby hd) hr)
theorem o_ireturnN {t : FieldType} (X : Stand p l e R s m args below meth c T locs cells slots) (K : OCx p s m meth c Z own nm bytes maxL (some t)) (ht : t = .boolean ∨ t = .byte ∨ t = .char ∨ t = .short) {z : Int32} (hd : decode bytes pc = .ok (.ireturn, 1)) (hc : cells ≤ kc) (hs : slots ≤ ks) (N : Fr n0 locs) (hQ : Q (some (.int (nar t z))) T.heap) : OGo p e below s n0 Q kc ks (T.setTop (mkF m pc Ls (.int z :: St))) :=
  o_leave X K.hlk (fun h => by rw [K.hret] at h; cases h) hc hs N hQ (fun fs hr => retN X K.hx K.hret ht (hb K.hby hd) hr)
theorem o_lreturn (X : Stand p l e R s m args below meth c T locs cells slots) (K : OCx p s m meth c Z own nm bytes maxL (some .long)) {z : Int64} (hd : decode bytes pc = .ok (.lreturn, 1)) (hc : cells ≤ kc) (hs : slots ≤ ks) (N : Fr n0 locs) (hQ : Q (some (.long z)) T.heap) : OGo p e below s n0 Q kc ks (T.setTop (mkF m pc Ls (.long z :: St))) :=
  o_leave X K.hlk (fun h => by rw [K.hret] at h; cases h) hc hs N hQ (fun fs hr => retOut X K.hx K.hret rfl (Or.inr (Or.inl ⟨rfl, rfl, z, rfl⟩)) (hb K.hby hd) hr)
theorem o_areturn {t : FieldType} (X : Stand p l e R s m args below meth c T locs cells slots) (K : OCx p s m meth c Z own nm bytes maxL (some t)) (ht : t.isReference = true) {z : Value} (hn : narrow t z = z) (hz : z.isRef = true) (hd : decode bytes pc = .ok (.areturn, 1)) (hc : cells ≤ kc) (hs : slots ≤ ks) (N : Fr n0 locs) (hQ : Q (some z) T.heap) : OGo p e below s n0 Q kc ks (T.setTop (mkF m pc Ls (z :: St))) :=
  o_leave X K.hlk (fun h => by rw [K.hret] at h; cases h) hc hs N hQ (fun fs hr => retOut X K.hx K.hret hn (Or.inr (Or.inr (Or.inr (Or.inr ⟨rfl, ht, hz⟩)))) (hb K.hby hd) hr)
theorem o_return (X : Stand p l e R s m args below meth c T locs cells slots) (K : OCx p s m meth c Z own nm bytes maxL none) (hd : decode bytes pc = .ok (.return_, 1)) (hc : cells ≤ kc) (hs : slots ≤ ks) (N : Fr n0 locs) (hQ : Q none T.heap) : OGo p e below s n0 Q kc ks (T.setTop (mkF m pc Ls [])) :=
  o_leave X K.hlk (fun _ => rfl) hc hs N hQ (fun fs hr => X.returnOut K.hx K.hret (hb K.hby hd) hr)
/-- an array: its kind, its length, what each place holds -/
def OAr (Z : State) (h : Heap) (a : Addr) (ty : FieldType) (n : Nat) (f : Nat → Value) : Prop := ∃ c : Cell, Arr Z h a c ty ∧ c.slots.size = n ∧ n < 2147483648 ∧ (∀ j, j < n → c.slots[j]? = some (f j)) ∧ ∀ j, j < n → fits ty (f j) = true
theorem OAr.lt {a : Addr} {ty : FieldType} {n : Nat} {f : Nat → Value} (A : OAr Z h a ty n f) : a < h.size := by obtain ⟨c, A, -⟩ := A; exact A.lt
theorem OAr.len {a : Addr} {ty : FieldType} {n : Nat} {f : Nat → Value} (A : OAr Z h a ty n f) : n < 2147483648 := by obtain ⟨c, -, -, A, -⟩ := A; exact A
theorem OAr.fit {a : Addr} {ty : FieldType} {n : Nat} {f : Nat → Value} (A : OAr Z h a ty n f) {j : Nat} (hj : j < n) : fits ty (f j) = true := by obtain ⟨c, -, -, -, -, A⟩ := A; exact A j hj
theorem OAr.ext {a : Addr} {ty : FieldType} {n : Nat} {f : Nat → Value} (A : OAr Z h a ty n f) (E : Ext h h') : OAr Z h' a ty n f := by obtain ⟨c, A, r⟩ := A; exact ⟨c, A.ext E, r⟩
theorem OAr.other {a b : Addr} {ty : FieldType} {n sl : Nat} {f : Nat → Value} {v : Value} (A : OAr Z h b ty n f) (W : Wr h h' a sl v) (q : b ≠ a) : OAr Z h' b ty n f := by obtain ⟨c, A, r⟩ := A; exact ⟨c, A.other W q, r⟩
theorem OAr.keep {a : Addr} {ty : FieldType} {n : Nat} {f : Nat → Value} {ws : List Addr} (A : OAr Z h a ty n f) (E : Keep h h' ws) (q : a ∉ ws) : OAr Z h' a ty n f := by obtain ⟨c, A, r⟩ := A; exact ⟨c, ⟨E.2.1 _ _ A.1 q, A.2⟩, r⟩
theorem OAr.congr {a : Addr} {ty : FieldType} {n : Nat} {f g : Nat → Value} (A : OAr Z h a ty n f) (q : ∀ j, j < n → f j = g j) : OAr Z h a ty n g := by
  obtain ⟨c, A, r1, r2, r3, r4⟩ := A
  exact ⟨c, A, r1, r2, fun j hj => by rw [← q j hj]; exact r3 j hj, fun j hj => by rw [← q j hj]; exact r4 j hj⟩
theorem OAr.same {a : Addr} {ty : FieldType} {n i : Nat} {f : Nat → Value} {v : Value} (A : OAr Z h a ty n f) (W : Wr h h' a i v) (hv : fits ty v = true) : OAr Z h' a ty n (fun q => if q = i then v else f q) := by
  obtain ⟨c, A, r1, r2, r3, r4⟩ := A
  refine ⟨_, A.same W, by rw [sz_set]; exact r1, r2, fun j hj => ?_, fun j hj => ?_⟩
  · by_cases e : j = i
    · subst e; simp [Cell.setSlot, r1, hj]
    · have e' : ¬ i = j := fun z => e z.symm
      simp [Cell.setSlot, e, e', r3 j hj]
  · by_cases e : j = i
    · simp [e, hv]
    · simp [e, r4 j hj]
theorem o_idx {j : Int32} {i n : Nat} {c : Cell} (hj : j.toInt = (i : Int)) (hi : i < n) (r1 : c.slots.size = n) : ¬ (j < 0 ∨ c.slots.size ≤ j.toNatClampNeg) ∧ j.toNatClampNeg = i := by
  have e : j.toNatClampNeg = i := by rw [← Int32.toNat_toInt, hj]; rfl
  refine ⟨?_, e⟩
  rw [e, r1, Int32.lt_iff_toInt_lt, hj]
  intro q
  rcases q with q | q
  · have : (0 : Int32).toInt = 0 := rfl
    omega
  · omega
theorem o_len {n : Nat} (h : n < 2147483648) : (n.toInt32).toInt = n := by
  have := len_toInt (n := n) (by omega)
  exact this
theorem o_arraylength (X : Stand p l e R s m args below meth c T locs cells slots) (K : OCx p s m meth c Z own nm bytes maxL ret) {a : Addr} {ty : FieldType} {n : Nat} {f : Nat → Value} (hd : decode bytes pc = .ok (.arraylength, 1)) (pc' : Nat) (hp : pc + 1 = pc') (eT : T.heap = h) (A : OAr Z h a ty n f) {v : Int32} (hv : v.toInt = n) (hr : OGo p e below s n0 Q kc ks (T.setTop (mkF m pc' Ls (.int v :: St)))) : OGo p e below s n0 Q kc ks (T.setTop (mkF m pc Ls (.ref a :: St))) := by
  subst hp
  obtain ⟨cl, A, r1, r2, -⟩ := A
  have e1 : cl.slots.size.toInt32 = v := by rw [← Int32.toInt_inj, hv, r1]; exact o_len r2
  refine OGo.st (fun t k => ?_) hr
  refine X.arraylength K.hx (g := mkF m pc Ls (.ref a :: St)) (by rw [eT]; exact A.1) (State.isArrayOf_alike K.hZ.alike A.2.1) rfl rfl (hb K.hby hd) t ?_
  rw [e1]
  exact k
theorem o_iaload (X : Stand p l e R s m args below meth c T locs cells slots) (K : OCx p s m meth c Z own nm bytes maxL ret) {a : Addr} {n i : Nat} {f : Nat → Value} {j : Int32} {v : Value} (hd : decode bytes pc = .ok (.iaload, 1)) (pc' : Nat) (hp : pc + 1 = pc') (eT : T.heap = h) (A : OAr Z h a .int n f) (hj : j.toInt = (i : Int)) (hi : i < n) (hv : f i = v) (hr : OGo p e below s n0 Q kc ks (T.setTop (mkF m pc' Ls (v :: St)))) : OGo p e below s n0 Q kc ks (T.setTop (mkF m pc Ls (.int j :: .ref a :: St))) := by
  subst hp
  obtain ⟨cl, A, r1, r2, r3, -⟩ := A
  obtain ⟨q1, q2⟩ := o_idx (c := cl) hj hi r1
  exact OGo.st (fun t k => X.iaload K.hx (g := mkF m pc Ls (.int j :: .ref a :: St)) (by rw [eT]; exact A.1) (State.isArrayOf_alike K.hZ.alike A.2.1) A.2.2 q1 (by rw [q2, r3 i hi, hv]) rfl rfl (hb K.hby hd) t k) hr
theorem o_laload (X : Stand p l e R s m args below meth c T locs cells slots) (K : OCx p s m meth c Z own nm bytes maxL ret) {a : Addr} {n i : Nat} {f : Nat → Value} {j : Int32} {v : Value} (hd : decode bytes pc = .ok (.laload, 1)) (pc' : Nat) (hp : pc + 1 = pc') (eT : T.heap = h) (A : OAr Z h a .long n f) (hj : j.toInt = (i : Int)) (hi : i < n) (hv : f i = v) (hr : OGo p e below s n0 Q kc ks (T.setTop (mkF m pc' Ls (v :: St)))) : OGo p e below s n0 Q kc ks (T.setTop (mkF m pc Ls (.int j :: .ref a :: St))) := by
  subst hp
  obtain ⟨cl, A, r1, r2, r3, -⟩ := A
  obtain ⟨q1, q2⟩ := o_idx (c := cl) hj hi r1
  exact OGo.st (fun t k => X.laload K.hx (g := mkF m pc Ls (.int j :: .ref a :: St)) (by rw [eT]; exact A.1) (State.isArrayOf_alike K.hZ.alike A.2.1) A.2.2 q1 (by rw [q2, r3 i hi, hv]) rfl rfl (hb K.hby hd) t k) hr
theorem o_caload (X : Stand p l e R s m args below meth c T locs cells slots) (K : OCx p s m meth c Z own nm bytes maxL ret) {a : Addr} {n i : Nat} {f : Nat → Value} {j : Int32} {v : Value} (hd : decode bytes pc = .ok (.caload, 1)) (pc' : Nat) (hp : pc + 1 = pc') (eT : T.heap = h) (A : OAr Z h a .char n f) (hj : j.toInt = (i : Int)) (hi : i < n) (hv : f i = v) (hr : OGo p e below s n0 Q kc ks (T.setTop (mkF m pc' Ls (v :: St)))) : OGo p e below s n0 Q kc ks (T.setTop (mkF m pc Ls (.int j :: .ref a :: St))) := by
  subst hp
  obtain ⟨cl, A, r1, r2, r3, -⟩ := A
  obtain ⟨q1, q2⟩ := o_idx (c := cl) hj hi r1
  exact OGo.st (fun t k => X.caload K.hx (g := mkF m pc Ls (.int j :: .ref a :: St)) (by rw [eT]; exact A.1) (State.isArrayOf_alike K.hZ.alike A.2.1) A.2.2 q1 (by rw [q2, r3 i hi, hv]) rfl rfl (hb K.hby hd) t k) hr
theorem o_saload (X : Stand p l e R s m args below meth c T locs cells slots) (K : OCx p s m meth c Z own nm bytes maxL ret) {a : Addr} {n i : Nat} {f : Nat → Value} {j : Int32} {v : Value} (hd : decode bytes pc = .ok (.saload, 1)) (pc' : Nat) (hp : pc + 1 = pc') (eT : T.heap = h) (A : OAr Z h a .short n f) (hj : j.toInt = (i : Int)) (hi : i < n) (hv : f i = v) (hr : OGo p e below s n0 Q kc ks (T.setTop (mkF m pc' Ls (v :: St)))) : OGo p e below s n0 Q kc ks (T.setTop (mkF m pc Ls (.int j :: .ref a :: St))) := by
  subst hp
  obtain ⟨cl, A, r1, r2, r3, -⟩ := A
  obtain ⟨q1, q2⟩ := o_idx (c := cl) hj hi r1
  exact OGo.st (fun t k => X.saload K.hx (g := mkF m pc Ls (.int j :: .ref a :: St)) (by rw [eT]; exact A.1) (State.isArrayOf_alike K.hZ.alike A.2.1) A.2.2 q1 (by rw [q2, r3 i hi, hv]) rfl rfl (hb K.hby hd) t k) hr
theorem o_baload (X : Stand p l e R s m args below meth c T locs cells slots) (K : OCx p s m meth c Z own nm bytes maxL ret) {a : Addr} {n i : Nat} {f : Nat → Value} {j : Int32} {v : Value} (hd : decode bytes pc = .ok (.baload, 1)) (pc' : Nat) (hp : pc + 1 = pc') (eT : T.heap = h) (A : OAr Z h a .byte n f) (hj : j.toInt = (i : Int)) (hi : i < n) (hv : f i = v) (hr : OGo p e below s n0 Q kc ks (T.setTop (mkF m pc' Ls (v :: St)))) : OGo p e below s n0 Q kc ks (T.setTop (mkF m pc Ls (.int j :: .ref a :: St))) := by
  subst hp
  obtain ⟨cl, A, r1, r2, r3, -⟩ := A
  obtain ⟨q1, q2⟩ := o_idx (c := cl) hj hi r1
  exact OGo.st (fun t k => X.baloadBytes K.hx (g := mkF m pc Ls (.int j :: .ref a :: St)) (by rw [eT]; exact A.1) (State.isArrayOf_alike K.hZ.alike A.2.1) A.2.2 q1 (by rw [q2, r3 i hi, hv]) rfl rfl (hb K.hby hd) t k) hr
theorem o_zaload (X : Stand p l e R s m args below meth c T locs cells slots) (K : OCx p s m meth c Z own nm bytes maxL ret) {a : Addr} {n i : Nat} {f : Nat → Value} {j : Int32} {v : Value} (hd : decode bytes pc = .ok (.baload, 1)) (pc' : Nat) (hp : pc + 1 = pc') (eT : T.heap = h) (A : OAr Z h a .boolean n f) (hj : j.toInt = (i : Int)) (hi : i < n) (hv : f i = v) (hr : OGo p e below s n0 Q kc ks (T.setTop (mkF m pc' Ls (v :: St)))) : OGo p e below s n0 Q kc ks (T.setTop (mkF m pc Ls (.int j :: .ref a :: St))) := by
  subst hp
  obtain ⟨cl, A, r1, r2, r3, -⟩ := A
  obtain ⟨q1, q2⟩ := o_idx (c := cl) hj hi r1
  exact OGo.st (fun t k => X.baloadBooleans K.hx (g := mkF m pc Ls (.int j :: .ref a :: St)) (by rw [eT]; exact A.1) (State.isArrayOf_alike K.hZ.alike A.2.1) A.2.2 q1 (by rw [q2, r3 i hi, hv]) rfl rfl (hb K.hby hd) t k) hr
theorem o_aaload (X : Stand p l e R s m args below meth c T locs cells slots) (K : OCx p s m meth c Z own nm bytes maxL ret) {a : Addr} {ty : FieldType} {n i : Nat} {f : Nat → Value} {j : Int32} {v : Value} (hd : decode bytes pc = .ok (.aaload, 1)) (pc' : Nat) (hp : pc + 1 = pc') (eT : T.heap = h) (A : OAr Z h a ty n f) (hty : ty.isReference = true) (hj : j.toInt = (i : Int)) (hi : i < n) (hv : f i = v) (hr : OGo p e below s n0 Q kc ks (T.setTop (mkF m pc' Ls (v :: St)))) : OGo p e below s n0 Q kc ks (T.setTop (mkF m pc Ls (.int j :: .ref a :: St))) := by
  subst hp
  obtain ⟨cl, A, r1, r2, r3, -⟩ := A
  obtain ⟨q1, q2⟩ := o_idx (c := cl) hj hi r1
  exact OGo.st (fun t k => X.aaload K.hx (g := mkF m pc Ls (.int j :: .ref a :: St)) (by rw [eT]; exact A.1) (State.isArrayOf_alike K.hZ.alike A.2.1) hty A.2.2 q1 (by rw [q2, r3 i hi, hv]) rfl rfl (hb K.hby hd) t k) hr
theorem o_bastore (X : Stand p l e R s m args below meth c T locs cells slots) (K : OCx p s m meth c Z own nm bytes maxL ret) {a : Addr} {n i : Nat} {f : Nat → Value} {j : Int32} {x x' : Int32} (hd : decode bytes pc = .ok (.bastore, 1)) (pc' : Nat) (hp : pc + 1 = pc') (eT : T.heap = h) (A : OAr Z h a .byte n f) (hj : j.toInt = (i : Int)) (hi : i < n) (hv : nar .byte x = x') (N : Fr n0 locs) (ge : n0 ≤ a)
    (hr : ∀ T' h' locs', Stand p l e R s m args below meth c T' locs' cells slots → T'.heap = h' → Wr h h' a i (.int x') → OAr Z h' a .byte n (fun q => if q = i then (.int x') else f q) → Fr n0 locs' → OGo p e below s n0 Q kc ks (T'.setTop (mkF m pc' Ls St))) : OGo p e below s n0 Q kc ks (T.setTop (mkF m pc Ls (.int x :: .int j :: .ref a :: St))) := by
  subst hp hv
  obtain ⟨cl, B, r1, r2, r3, -⟩ := id A
  obtain ⟨q1, q2⟩ := o_idx (c := cl) hj hi r1
  obtain ⟨T', h', X', e', W', st'⟩ := stB X K.hx K.hZ eT B q1 (g := mkF m pc Ls (.int x :: .int j :: .ref a :: St)) rfl rfl (hb K.hby hd)
  have N' := Fr.snoc X' N ge
  rw [q2] at W'
  exact OGo.st st' (hr T' h' _ X' e' W' (A.same W' (fits_nar_byte x)) N')
theorem o_castore (X : Stand p l e R s m args below meth c T locs cells slots) (K : OCx p s m meth c Z own nm bytes maxL ret) {a : Addr} {n i : Nat} {f : Nat → Value} {j : Int32} {x x' : Int32} (hd : decode bytes pc = .ok (.castore, 1)) (pc' : Nat) (hp : pc + 1 = pc') (eT : T.heap = h) (A : OAr Z h a .char n f) (hj : j.toInt = (i : Int)) (hi : i < n) (hv : nar .char x = x') (N : Fr n0 locs) (ge : n0 ≤ a)
    (hr : ∀ T' h' locs', Stand p l e R s m args below meth c T' locs' cells slots → T'.heap = h' → Wr h h' a i (.int x') → OAr Z h' a .char n (fun q => if q = i then (.int x') else f q) → Fr n0 locs' → OGo p e below s n0 Q kc ks (T'.setTop (mkF m pc' Ls St))) : OGo p e below s n0 Q kc ks (T.setTop (mkF m pc Ls (.int x :: .int j :: .ref a :: St))) := by
  subst hp hv
  obtain ⟨cl, B, r1, r2, r3, -⟩ := id A
  obtain ⟨q1, q2⟩ := o_idx (c := cl) hj hi r1
  obtain ⟨T', h', X', e', W', st'⟩ := stC X K.hx K.hZ eT B q1 (g := mkF m pc Ls (.int x :: .int j :: .ref a :: St)) rfl rfl (hb K.hby hd)
  have N' := Fr.snoc X' N ge
  rw [q2] at W'
  exact OGo.st st' (hr T' h' _ X' e' W' (A.same W' (fits_nar_char x)) N')
theorem o_sastore (X : Stand p l e R s m args below meth c T locs cells slots) (K : OCx p s m meth c Z own nm bytes maxL ret) {a : Addr} {n i : Nat} {f : Nat → Value} {j : Int32} {x x' : Int32} (hd : decode bytes pc = .ok (.sastore, 1)) (pc' : Nat) (hp : pc + 1 = pc') (eT : T.heap = h) (A : OAr Z h a .short n f) (hj : j.toInt = (i : Int)) (hi : i < n) (hv : nar .short x = x') (N : Fr n0 locs) (ge : n0 ≤ a)
    (hr : ∀ T' h' locs', Stand p l e R s m args below meth c T' locs' cells slots → T'.heap = h' → Wr h h' a i (.int x') → OAr Z h' a .short n (fun q => if q = i then (.int x') else f q) → Fr n0 locs' → OGo p e below s n0 Q kc ks (T'.setTop (mkF m pc' Ls St))) : OGo p e below s n0 Q kc ks (T.setTop (mkF m pc Ls (.int x :: .int j :: .ref a :: St))) := by
  subst hp hv
  obtain ⟨cl, B, r1, r2, r3, -⟩ := id A
  obtain ⟨q1, q2⟩ := o_idx (c := cl) hj hi r1
  obtain ⟨T', h', X', e', W', st'⟩ := stS X K.hx K.hZ eT B q1 (g := mkF m pc Ls (.int x :: .int j :: .ref a :: St)) rfl rfl (hb K.hby hd)
  have N' := Fr.snoc X' N ge
  rw [q2] at W'
  exact OGo.st st' (hr T' h' _ X' e' W' (A.same W' (fits_nar_short x)) N')
theorem o_zastore (X : Stand p l e R s m args below meth c T locs cells slots) (K : OCx p s m meth c Z own nm bytes maxL ret) {a : Addr} {n i : Nat} {f : Nat → Value} {j : Int32} {x x' : Int32} (hd : decode bytes pc = .ok (.bastore, 1)) (pc' : Nat) (hp : pc + 1 = pc') (eT : T.heap = h) (A : OAr Z h a .boolean n f) (hj : j.toInt = (i : Int)) (hi : i < n) (hv : nar .boolean x = x') (N : Fr n0 locs) (ge : n0 ≤ a)
    (hr : ∀ T' h' locs', Stand p l e R s m args below meth c T' locs' cells slots → T'.heap = h' → Wr h h' a i (.int x') → OAr Z h' a .boolean n (fun q => if q = i then (.int x') else f q) → Fr n0 locs' → OGo p e below s n0 Q kc ks (T'.setTop (mkF m pc' Ls St))) : OGo p e below s n0 Q kc ks (T.setTop (mkF m pc Ls (.int x :: .int j :: .ref a :: St))) := by
  subst hp hv
  obtain ⟨cl, B, r1, r2, r3, -⟩ := id A
  obtain ⟨q1, q2⟩ := o_idx (c := cl) hj hi r1
  obtain ⟨T', h', X', e', W', st'⟩ := stZ X K.hx K.hZ eT B q1 (g := mkF m pc Ls (.int x :: .int j :: .ref a :: St)) rfl rfl (hb K.hby hd)
  have N' := Fr.snoc X' N ge
  rw [q2] at W'
  exact OGo.st st' (hr T' h' _ X' e' W' (A.same W' (fits_nar_bool x)) N')
theorem o_iastore (X : Stand p l e R s m args below meth c T locs cells slots) (K : OCx p s m meth c Z own nm bytes maxL ret) {a : Addr} {n i : Nat} {f : Nat → Value} {j : Int32} {x x' : Int32} (hd : decode bytes pc = .ok (.iastore, 1)) (pc' : Nat) (hp : pc + 1 = pc') (eT : T.heap = h) (A : OAr Z h a .int n f) (hj : j.toInt = (i : Int)) (hi : i < n) (hv : x = x') (N : Fr n0 locs) (ge : n0 ≤ a)
    (hr : ∀ T' h' locs', Stand p l e R s m args below meth c T' locs' cells slots → T'.heap = h' → Wr h h' a i (.int x') → OAr Z h' a .int n (fun q => if q = i then (.int x') else f q) → Fr n0 locs' → OGo p e below s n0 Q kc ks (T'.setTop (mkF m pc' Ls St))) : OGo p e below s n0 Q kc ks (T.setTop (mkF m pc Ls (.int x :: .int j :: .ref a :: St))) := by
  subst hp hv
  obtain ⟨cl, B, r1, r2, r3, -⟩ := id A
  obtain ⟨q1, q2⟩ := o_idx (c := cl) hj hi r1
  obtain ⟨T', h', X', e', W', st'⟩ := stI X K.hx K.hZ eT B q1 (g := mkF m pc Ls (.int x :: .int j :: .ref a :: St)) rfl rfl (hb K.hby hd)
  have N' := Fr.snoc X' N ge
  rw [q2] at W'
  exact OGo.st st' (hr T' h' _ X' e' W' (A.same W' (rfl)) N')
theorem o_lastore (X : Stand p l e R s m args below meth c T locs cells slots) (K : OCx p s m meth c Z own nm bytes maxL ret) {a : Addr} {n i : Nat} {f : Nat → Value} {j : Int32} {x x' : Int64} (hd : decode bytes pc = .ok (.lastore, 1)) (pc' : Nat) (hp : pc + 1 = pc') (eT : T.heap = h) (A : OAr Z h a .long n f) (hj : j.toInt = (i : Int)) (hi : i < n) (hv : x = x') (N : Fr n0 locs) (ge : n0 ≤ a)
    (hr : ∀ T' h' locs', Stand p l e R s m args below meth c T' locs' cells slots → T'.heap = h' → Wr h h' a i (.long x') → OAr Z h' a .long n (fun q => if q = i then (.long x') else f q) → Fr n0 locs' → OGo p e below s n0 Q kc ks (T'.setTop (mkF m pc' Ls St))) : OGo p e below s n0 Q kc ks (T.setTop (mkF m pc Ls (.long x :: .int j :: .ref a :: St))) := by
  subst hp hv
  obtain ⟨cl, B, r1, r2, r3, -⟩ := id A
  obtain ⟨q1, q2⟩ := o_idx (c := cl) hj hi r1
  obtain ⟨T', h', X', e', W', st'⟩ := stJ X K.hx K.hZ eT B q1 (g := mkF m pc Ls (.long x :: .int j :: .ref a :: St)) rfl rfl (hb K.hby hd)
  have N' := Fr.snoc X' N ge
  rw [q2] at W'
  exact OGo.st st' (hr T' h' _ X' e' W' (A.same W' (rfl)) N')
theorem o_newarray (X : Stand p l e R s m args below meth c T locs cells slots) (K : OCx p s m meth c Z own nm bytes maxL ret) {aty : ArrayType} {z : Int32} {n : Nat} (hd : decode bytes pc = .ok (.newarray aty, 2)) (pc' : Nat) (hp : pc + 2 = pc') (w : (Jvm.Cond.arrayClass (newarray.typeOf aty)).before a0 Z = true) (eT : T.heap = h) (hz : z.toInt = (n : Int)) (cap : Nat) (hcap : n ≤ cap) (hb8 : cap * 8 ≤ 536870912) (hc : cells + 1 ≤ R.cells) (hl : slots + cap ≤ R.slots)
    (hdv : fits (newarray.typeOf aty) (defaultValue (newarray.typeOf aty)) = true)
    (hr : ∀ T' h' a, a = h.size → Stand p l e R s m args below meth c T' locs (cells + 1) (slots + cap) → T'.heap = h' → Ext h h' → OAr Z h' a (newarray.typeOf aty) n (fun _ => defaultValue (newarray.typeOf aty)) → OGo p e below s n0 Q kc ks (T'.setTop (mkF m pc' Ls (.ref a :: St)))) : OGo p e below s n0 Q kc ks (T.setTop (mkF m pc Ls (.int z :: St))) := by
  subst hp
  have e1 : z.toNatClampNeg = n := by rw [← Int32.toNat_toInt, hz]; rfl
  have hneg : ¬ z < 0 := by
    rw [Int32.lt_iff_toInt_lt, hz]
    have : (0 : Int32).toInt = 0 := rfl
    omega
  obtain ⟨T', h', cA, X', e', E', A', st'⟩ := newP X K.hx K.hZ w eT (g := mkF m pc Ls (.int z :: St)) rfl (hb K.hby hd) rfl hneg (cap := cap) (by omega) hb8 hc hl
  refine OGo.st st' (hr T' h' _ rfl X' e' E' ⟨_, A', (sz_new _ _ _).trans e1, ?_, fun j hj => ?_, fun j _ => hdv⟩)
  · have := (rng32 z).2
    omega
  · simp [newA, e1, hj]
theorem o_anewarray (X : Stand p l e R s m args below meth c T locs cells slots) (K : OCx p s m meth c Z own nm bytes maxL ret) {C : String} {index : Nat} {z : Int32} {n : Nat} (hd : decode bytes pc = .ok (.anewarray index, 3)) (pc' : Nat) (hp : pc + 3 = pc') (w1 : (Jvm.Cond.classLink own index C).before a0 Z = true) (w2 : (Jvm.Cond.arrayOver (.object C)).before a0 Z = true) (eT : T.heap = h) (hz : z.toInt = (n : Int)) (cap : Nat) (hcap : n ≤ cap) (hb8 : cap * 8 ≤ 536870912) (hc : cells + 1 ≤ R.cells) (hl : slots + cap ≤ R.slots)
    (hr : ∀ T' h' a, a = h.size → Stand p l e R s m args below meth c T' locs (cells + 1) (slots + cap) → T'.heap = h' → Ext h h' → OAr Z h' a (.object C) n (fun _ => .null) → (∃ cl : Cell, h'[a]? = some cl ∧ Ovr Z cl.cls C) → OGo p e below s n0 Q kc ks (T'.setTop (mkF m pc' Ls (.ref a :: St)))) : OGo p e below s n0 Q kc ks (T.setTop (mkF m pc Ls (.int z :: St))) := by
  subst hp
  have e1 : z.toNatClampNeg = n := by rw [← Int32.toNat_toInt, hz]; rfl
  have hneg : ¬ z < 0 := by
    rw [Int32.lt_iff_toInt_lt, hz]
    have : (0 : Int32).toInt = 0 := rfl
    omega
  obtain ⟨T', h', cA, X', e', E', A', O', st'⟩ := newR X K.hx K.hZ K.hown w1 w2 eT (g := mkF m pc Ls (.int z :: St)) rfl (hb K.hby hd) rfl hneg (cap := cap) (by omega) hb8 hc hl
  refine OGo.st st' (hr T' h' _ rfl X' e' E' ⟨_, A', (sz_new _ _ _).trans e1, ?_, fun j hj => ?_, fun j _ => rfl⟩ ⟨_, A'.1, O'⟩)
  · have := (rng32 z).2
    omega
  · simp [newA, e1, hj, defaultValue]
theorem o_new (X : Stand p l e R s m args below meth c T locs cells slots) (K : OCx p s m meth c Z own nm bytes maxL ret) {C : String} {index k : Nat} (hd : decode bytes pc = .ok (.new index, 3)) (pc' : Nat) (hp : pc + 3 = pc') (w : (Jvm.Cond.classLink own index C).before a0 Z = true) (wi : (Jvm.Cond.instantiable C k).before a0 Z = true) (wz : (Jvm.Cond.initialized C).before a0 Z = true) (eT : T.heap = h) (hc : cells + 1 ≤ R.cells) (hl : slots + k ≤ R.slots)
    (hr : ∀ T' h' a, a = h.size → Stand p l e R s m args below meth c T' locs (cells + 1) (slots + k) → T'.heap = h' → Ext h h' → Exa Z h' a C → (∀ {O nm d : String} {ty : FieldType}, Laid Z a0 C O nm d → parseFieldDescriptor d = some ty → Fld Z h' a O nm d (defaultValue ty)) → OGo p e below s n0 Q kc ks (T'.setTop (mkF m pc' Ls (.ref a :: St)))) : OGo p e below s n0 Q kc ks (T.setTop (mkF m pc Ls St)) := by
  subst hp
  obtain ⟨T', h', X', e', E', A', D', -, st'⟩ := newO X K.hx K.hZ K.hown w wi wz eT (g := mkF m pc Ls St) rfl (hb K.hby hd) hc hl
  exact OGo.st st' (hr T' h' _ rfl X' e' E' A' D')
theorem o_initO (X : Stand p l e R s m args below meth c T locs cells slots) (K : OCx p s m meth c Z own nm bytes maxL ret) {idx : Nat} {a : Addr} (hd : decode bytes pc = .ok (.invokespecial idx, 3)) (pc' : Nat) (hp : pc + 3 = pc') (w1 : (Jvm.Cond.methodLink own idx Lib.objectInit).before a0 Z = true) (w2 : (Jvm.Cond.instanceMethod Lib.objectInit).before a0 Z = true) (w3 : (Jvm.Cond.code Lib.objectInit ⟨#[0xb1]⟩ 1 none).before a0 Z = true) (eT : T.heap = h) (hsz : Ls.size = maxL)
    (hf : 1 ≤ R.frames) (W : Nat) (hW : (St.map fun v => v.category).sum ≤ W) (hl : W + 12 ≤ R.locals) (hr : ∀ T', Stand p l e R s m args below meth c T' locs cells slots → T'.heap = h → OGo p e below s n0 Q kc ks (T'.setTop (mkF m pc' Ls St))) : OGo p e below s n0 Q kc ks (T.setTop (mkF m pc Ls (.ref a :: St))) := by
  subst hp
  obtain ⟨T', X', e', st'⟩ := initO X K.hx K.hZ K.hown w1 w2 w3 eT (g := mkF m pc Ls (.ref a :: St)) rfl (by rw [K.hml]; exact hsz) rfl (hb K.hby hd) hf (W := W) (by show 2 * 0 + _ ≤ _; omega) hl
  exact OGo.st st' (hr T' X' e')
theorem o_getfield (X : Stand p l e R s m args below meth c T locs cells slots) (K : OCx p s m meth c Z own nm bytes maxL ret) {index : Nat} {R0 O n d host : String} {a : Addr} {v : Value} (hd : decode bytes pc = .ok (.getfield index, 3)) (pc' : Nat) (hp : pc + 3 = pc') (w : (Jvm.Cond.fieldLink own index R0 n d).before a0 Z = true ∨ (Jvm.Cond.fieldLinkNest own index R0 n d host).before a0 Z = true) (via : Via Z R0 O n d) (eT : T.heap = h) (F : Fld Z h a O n d v)
    (hr : ∀ T', Stand p l e R s m args below meth c T' locs cells slots → T'.heap = h → OGo p e below s n0 Q kc ks (T'.setTop (mkF m pc' Ls (v :: St)))) : OGo p e below s n0 Q kc ks (T.setTop (mkF m pc Ls (.ref a :: St))) := by
  subst hp
  obtain ⟨T', X', e', st'⟩ := getF X K.hx K.hZ K.hown w via eT F (g := mkF m pc Ls (.ref a :: St)) rfl rfl (hb K.hby hd)
  exact OGo.st st' (hr T' X' e')
theorem o_getstatic (X : Stand p l e R s m args below meth c T locs cells slots) (K : OCx p s m meth c Z own nm bytes maxL ret) {index : Nat} {R0 O n d host : String} {v : Value} (hd : decode bytes pc = .ok (.getstatic index, 3)) (pc' : Nat) (hp : pc + 3 = pc') (w : (Jvm.Cond.fieldLink own index R0 n d).before a0 Z = true ∨ (Jvm.Cond.fieldLinkNest own index R0 n d host).before a0 Z = true) (via : Via Z R0 O n d) (eT : T.heap = h) (F : Sta Z h O n d v)
    (hr : ∀ T', Stand p l e R s m args below meth c T' locs cells slots → T'.heap = h → OGo p e below s n0 Q kc ks (T'.setTop (mkF m pc' Ls (v :: St)))) : OGo p e below s n0 Q kc ks (T.setTop (mkF m pc Ls St)) := by
  subst hp
  obtain ⟨T', X', e', st'⟩ := getS2 X K.hx K.hZ K.hown w via eT F (g := mkF m pc Ls St) rfl (hb K.hby hd)
  exact OGo.st st' (hr T' X' e')
theorem o_putfield (X : Stand p l e R s m args below meth c T locs cells slots) (K : OCx p s m meth c Z own nm bytes maxL ret) {index kk : Nat} {R0 O n d host C : String} {a : Addr} {v old : Value} {ty : FieldType} (hd : decode bytes pc = .ok (.putfield index, 3)) (pc' : Nat) (hp : pc + 3 = pc') (w : (Jvm.Cond.fieldLink own index R0 n d).before a0 Z = true ∨ (Jvm.Cond.fieldLinkNest own index R0 n d host).before a0 Z = true) (via : Via Z R0 O n d) (eT : T.heap = h) (F : Fld Z h a O n d old) (E : Exa Z h a C)
    (L : (Jvm.Cond.lays C O n d).before a0 Z = true ∨ ((Jvm.Cond.laysFinal C O n d).before a0 Z = true ∧ own = O ∧ nm = "<init>")) (wi : (Jvm.Cond.instantiable C kk).before a0 Z = true) (hty : parseFieldDescriptor d = some ty) (hn : narrow ty v = v) (hf : fits ty v = true) (N : Fr n0 locs) (ge : n0 ≤ a)
    (hr : ∀ T' h' locs', Stand p l e R s m args below meth c T' locs' cells slots → T'.heap = h' → Wr h h' a (Jvm.RoadKit.slotOf Z O n d) v → Fr n0 locs' → OGo p e below s n0 Q kc ks (T'.setTop (mkF m pc' Ls St))) : OGo p e below s n0 Q kc ks (T.setTop (mkF m pc Ls (v :: .ref a :: St))) := by
  subst hp
  obtain ⟨T', h', X', e', W', st'⟩ := putF X K.hx K.hZ K.hown w via eT F E (L.imp id fun q => ⟨q.1, q.2.1, K.hnm.trans q.2.2⟩) wi hty hn hf (g := mkF m pc Ls (v :: .ref a :: St)) rfl rfl (hb K.hby hd)
  exact OGo.st st' (hr T' h' _ X' e' W' (Fr.snoc X' N ge))
theorem o_putfieldN (X : Stand p l e R s m args below meth c T locs cells slots) (K : OCx p s m meth c Z own nm bytes maxL ret) {index kk : Nat} {R0 O n d C : String} {a : Addr} {v v' old : Value} {ty : FieldType} (hd : decode bytes pc = .ok (.putfield index, 3)) (pc' : Nat) (hp : pc + 3 = pc') (w : (Jvm.Cond.fieldLink own index R0 n d).before a0 Z = true) (via : Via Z R0 O n d) (eT : T.heap = h) (F : Fld Z h a O n d old) (E : Exa Z h a C)
    (L : (Jvm.Cond.lays C O n d).before a0 Z = true ∨ ((Jvm.Cond.laysFinal C O n d).before a0 Z = true ∧ own = O ∧ nm = "<init>")) (wi : (Jvm.Cond.instantiable C kk).before a0 Z = true) (hty : parseFieldDescriptor d = some ty) (hn : narrow ty v = v') (hf : fits ty v' = true) (N : Fr n0 locs) (ge : n0 ≤ a)
    (hr : ∀ T' h' locs', Stand p l e R s m args below meth c T' locs' cells slots → T'.heap = h' → Wr h h' a (Jvm.RoadKit.slotOf Z O n d) v' → Fr n0 locs' → OGo p e below s n0 Q kc ks (T'.setTop (mkF m pc' Ls St))) : OGo p e below s n0 Q kc ks (T.setTop (mkF m pc Ls (v :: .ref a :: St))) := by
  subst hp
  obtain ⟨T', h', X', e', W', st'⟩ := putFN X K.hx K.hZ K.hown w via eT F E (L.imp id fun q => ⟨q.1, q.2.1, K.hnm.trans q.2.2⟩) wi hty hn hf (g := mkF m pc Ls (v :: .ref a :: St)) rfl rfl (hb K.hby hd)
  exact OGo.st st' (hr T' h' _ X' e' W' (Fr.snoc X' N ge))
theorem o_invokestatic (X : Stand p l e R s m args below meth c T locs cells slots) (K : OCx p s m meth c Z own nm bytes maxL ret) {index : Nat} {y : MethodName} {bytes' : ByteArray} {maxL' : Nat} {ret' : Option FieldType} {rm : Room} {Q' : Option Value → Heap → Prop} (hd : decode bytes pc = .ok (.invokestatic index, 3)) (pc' : Nat) (hp : pc + 3 = pc') (w1 : (Jvm.Cond.methodLink own index y).before a0 Z = true) (w2 : (Jvm.Cond.static y).before a0 Z = true) (w3 : (Jvm.Cond.initialized y.cls).before a0 Z = true) (w4 : (Jvm.Cond.code y bytes' maxL' ret').before a0 Z = true) (hy : y.cls ≠ "java/lang/invoke/MethodHandle" ∧ y.cls ≠ "java/lang/invoke/VarHandle")
    (argsL rest : List Value) (hst : St = argsL.reverse ++ rest) (con : OCon l Z n0 y bytes' maxL' ret' rm argsL.toArray h Q') (eT : T.heap = h) (hsz : Ls.size = maxL) (hlen : ∀ sig, parseMethodDescriptor y.desc = some sig → argsL.length = sig.parameters.length) (hf : rm.frames + 1 ≤ R.frames) (W : Nat) (hW : (rest.map fun v => v.category).sum ≤ W) (hlo : W + (maxL' + 11) + rm.locals ≤ R.locals) (hc : cells + rm.cells ≤ R.cells) (hs : slots + rm.slots ≤ R.slots) (N : Fr n0 locs)
    (hr : ∀ v T' h' locs', Stand p l e R s m args below meth c T' locs' (cells + rm.cells) (slots + rm.slots) → T'.heap = h' → Q' v h' → Fr n0 locs' → OGo p e below s n0 Q kc ks (T'.setTop (mkF m pc' Ls (v.toList ++ rest)))) : OGo p e below s n0 Q kc ks (T.setTop (mkF m pc Ls St)) := by
  subst hp hst
  obtain ⟨v, vm₁, ⟨T', L', k', n'⟩, -, X', ⟨Lc, ⟨hQ, hF⟩, l1, y1, z1⟩, st⟩ := Jvm.LawKit.callS X K.hx K.hown (mvT K.hZ w1) (mvT K.hZ w2) (mvT K.hZ w3) (mvT K.hZ w4) hy (backOf (W := W) (Q := fun v h L => Q' v h ∧ Fr n0 L) (con []) K.hZ w4 w3 hf hlo) (g := mkF m pc Ls (argsL.reverse ++ rest)) rfl (by rw [K.hml]; exact hsz) (argsL := argsL) (rest := rest) hlen rfl (by show 2 * 0 + _ ≤ _; omega) (hb K.hby hd) (fun _ _ => ⟨rfl, eT, hc, hs⟩)
  dsimp only [Pt.U, Pt.locs, Pt.cells, Pt.slots] at X' l1 y1 z1 st hQ
  subst l1 y1 z1
  exact OGo.st st (hr v T' _ _ X' rfl hQ (Fr.app N hF))
theorem o_invokespecial (X : Stand p l e R s m args below meth c T locs cells slots) (K : OCx p s m meth c Z own nm bytes maxL ret) {index : Nat} {y : MethodName} {bytes' : ByteArray} {maxL' : Nat} {rm : Room} {Q' : Option Value → Heap → Prop} {a : Addr} (hd : decode bytes pc = .ok (.invokespecial index, 3)) (pc' : Nat) (hp : pc + 3 = pc') (hy1 : y.name = "<init>") (w1 : (Jvm.Cond.methodLink own index y).before a0 Z = true) (w2 : (Jvm.Cond.instanceMethod y).before a0 Z = true) (w3 : (Jvm.Cond.initialized y.cls).before a0 Z = true) (w4 : (Jvm.Cond.code y bytes' maxL' none).before a0 Z = true) (hy : y.cls ≠ "java/lang/invoke/MethodHandle" ∧ y.cls ≠ "java/lang/invoke/VarHandle")
    (argsL rest : List Value) (hst : St = argsL.reverse ++ .ref a :: rest) (con : OCon l Z n0 y bytes' maxL' none rm (.ref a :: argsL).toArray h Q') (eT : T.heap = h) (hsz : Ls.size = maxL) (hlen : ∀ sig, parseMethodDescriptor y.desc = some sig → argsL.length = sig.parameters.length) (hf : rm.frames + 1 ≤ R.frames) (W : Nat) (hW : (rest.map fun v => v.category).sum ≤ W) (hlo : W + (maxL' + 11) + rm.locals ≤ R.locals) (hc : cells + rm.cells ≤ R.cells) (hs : slots + rm.slots ≤ R.slots) (N : Fr n0 locs)
    (hr : ∀ v T' h' locs', Stand p l e R s m args below meth c T' locs' (cells + rm.cells) (slots + rm.slots) → T'.heap = h' → Q' v h' → Fr n0 locs' → OGo p e below s n0 Q kc ks (T'.setTop (mkF m pc' Ls (v.toList ++ rest)))) : OGo p e below s n0 Q kc ks (T.setTop (mkF m pc Ls St)) := by
  subst hp hst
  obtain ⟨v, vm₁, ⟨T', L', k', n'⟩, -, X', ⟨Lc, ⟨hQ, hF⟩, l1, y1, z1⟩, st⟩ := X.specialBack K.hx hy1 K.hown (mvT K.hZ w1) (mvT K.hZ w2) (mvT K.hZ w4) hy (backOf (W := W) (Q := fun v h L => Q' v h ∧ Fr n0 L) (con []) K.hZ w4 w3 hf hlo) (g := mkF m pc Ls (argsL.reverse ++ .ref a :: rest)) rfl (by rw [K.hml]; exact hsz) (Steps.refl _) (argsL := argsL) (rest := rest) hlen rfl (by show 2 * 0 + _ ≤ _; omega) (hb K.hby hd) (fun _ _ => ⟨rfl, eT, hc, hs⟩)
  dsimp only [Pt.U, Pt.locs, Pt.cells, Pt.slots] at X' l1 y1 z1 st hQ
  subst l1 y1 z1
  exact OGo.st (fun t k => st.trans k) (hr v T' _ _ X' rfl hQ (Fr.app N hF))
theorem o_invokevirtual (X : Stand p l e R s m args below meth c T locs cells slots) (K : OCx p s m meth c Z own nm bytes maxL ret) {index : Nat} {y : MethodName} {bytes' : ByteArray} {maxL' : Nat} {ret' : Option FieldType} {rm : Room} {Q' : Option Value → Heap → Prop} {C : String} {a : Addr} (hd : decode bytes pc = .ok (.invokevirtual index, 3)) (pc' : Nat) (hp : pc + 3 = pc') (w1 : (Jvm.Cond.methodLink own index y).before a0 Z = true) (w2 : (Jvm.Cond.declares y).before a0 Z = true) (wsel : (Jvm.Cond.selects C y y).before a0 Z = true) (w5 : (Jvm.Cond.instanceMethod y).before a0 Z = true) (w3 : (Jvm.Cond.initialized y.cls).before a0 Z = true) (w4 : (Jvm.Cond.code y bytes' maxL' ret').before a0 Z = true) (hy : y.cls ≠ "java/lang/invoke/MethodHandle" ∧ y.cls ≠ "java/lang/invoke/VarHandle")
    (E : Exa Z h a C) (argsL rest : List Value) (hst : St = argsL.reverse ++ .ref a :: rest) (con : OCon l Z n0 y bytes' maxL' ret' rm (.ref a :: argsL).toArray h Q') (eT : T.heap = h) (hsz : Ls.size = maxL) (hlen : ∀ sig, parseMethodDescriptor y.desc = some sig → argsL.length = sig.parameters.length) (hf : rm.frames + 1 ≤ R.frames) (W : Nat) (hW : (rest.map fun v => v.category).sum ≤ W) (hlo : W + (maxL' + 11) + rm.locals ≤ R.locals) (hc : cells + rm.cells ≤ R.cells) (hs : slots + rm.slots ≤ R.slots) (N : Fr n0 locs)
    (hr : ∀ v T' h' locs', Stand p l e R s m args below meth c T' locs' (cells + rm.cells) (slots + rm.slots) → T'.heap = h' → Q' v h' → Fr n0 locs' → OGo p e below s n0 Q kc ks (T'.setTop (mkF m pc' Ls (v.toList ++ rest)))) : OGo p e below s n0 Q kc ks (T.setTop (mkF m pc Ls St)) := by
  subst hp hst
  obtain ⟨cq, kq, qa, qb, qc⟩ := isOf K.hZ eT E
  obtain ⟨v, vm₁, ⟨T', L', k', n'⟩, -, X', ⟨Lc, ⟨hQ, hF⟩, l1, y1, z1⟩, st⟩ := X.virtualBack K.hx K.hown (mvT K.hZ w1) (mvT K.hZ w2) (notFace_of_selects (args := #[]) (mvT K.hZ wsel)) (mvT K.hZ wsel) (mvT K.hZ w5) hy (backOf (W := W) (Q := fun v h L => Q' v h ∧ Fr n0 L) (con []) K.hZ w4 w3 hf hlo) qa qc (g := mkF m pc Ls (argsL.reverse ++ .ref a :: rest)) rfl (by rw [K.hml]; exact hsz) (Steps.refl _) (argsL := argsL) (rest := rest) hlen rfl (by show 2 * 0 + _ ≤ _; omega) (hb K.hby hd) (fun _ _ => ⟨rfl, eT, hc, hs⟩)
  dsimp only [Pt.U, Pt.locs, Pt.cells, Pt.slots] at X' l1 y1 z1 st hQ
  subst l1 y1 z1
  exact OGo.st (fun t k => st.trans k) (hr v T' _ _ X' rfl hQ (Fr.app N hF))
theorem o_nb (x : Int32) : nar .byte (x.toInt8.toInt32) = x.toInt8.toInt32 := by
  show x.toInt8.toInt32.toInt8.toInt32 = _
  simp
theorem o_join {α : Type} (F : α → State) (P : α → Prop) {S : State} (hgo : (∀ b, P b → OGo p e below s n0 Q kc ks (F b)) → OGo p e below s n0 Q kc ks S) (hrest : ∀ b, P b → OGo p e below s n0 Q kc ks (F b)) : OGo p e below s n0 Q kc ks S := hgo hrest
theorem o_ind {α : Type} (F : α → State) (Inv : Nat → α → Prop) (hz : ∀ a, Inv 0 a → OGo p e below s n0 Q kc ks (F a)) (hs : ∀ d, (∀ a, Inv d a → OGo p e below s n0 Q kc ks (F a)) → ∀ a, Inv (d + 1) a → OGo p e below s n0 Q kc ks (F a)) (d : Nat) (a : α) (i : Inv d a) : OGo p e below s n0 Q kc ks (F a) := by
  induction d generalizing a with
  | zero => exact hz a i
  | succ d ih => exact hs d ih a i
theorem o_sta_keep {C n d : String} {v : Value} {ws : List Addr} (F : Sta Z h C n d v) (k : Keep h h' ws) (q : ∀ x ∈ ws, ∀ cell : Cell, h[x]? = some cell → cell.vm.isStatics = false) : Sta Z h' C n d v := by
  obtain ⟨cf, i, kk, f, st, cell, h1, h2, h3, h4, h5, h6, h7⟩ := F
  refine ⟨cf, i, kk, f, st, cell, h1, h2, h3, h4, k.2.1 _ _ h5 (fun z => ?_), h6, h7⟩
  rw [q st z cell h5] at h6
  cases h6
abbrev OW (Z : State) (a0 : Array Value) : Prop := ∀ d ∈ tables_1, d.before a0 Z = true
end Own
set_option maxRecDepth 65536
theorem w_0 {Z : State} {a0 : Array Value} (hw : OW Z a0) : (Jvm.Cond.classLink "com/example/ration/ration/StrictWindowHasShapePinLaw" (7 : Nat) "com/example/ration/ration/StrictWindow").before a0 Z = true := hw _ (List.mem_of_getElem? (i := 0) rfl)
theorem w_1 {Z : State} {a0 : Array Value} (hw : OW Z a0) : (Jvm.Cond.instantiable "com/example/ration/ration/StrictWindow" (6 : Nat)).before a0 Z = true := hw _ (List.mem_of_getElem? (i := 1) rfl)
theorem w_2 {Z : State} {a0 : Array Value} (hw : OW Z a0) : (Jvm.Cond.initialized "com/example/ration/ration/StrictWindow").before a0 Z = true := hw _ (List.mem_of_getElem? (i := 2) rfl)
theorem w_3 {Z : State} {a0 : Array Value} (hw : OW Z a0) : (Jvm.Cond.methodLink "com/example/ration/ration/StrictWindowHasShapePinLaw" (9 : Nat) ({ cls := "com/example/ration/ration/StrictWindow", name := "<init>", desc := "(J)V" } : Jvm.MethodName)).before a0 Z = true := hw _ (List.mem_of_getElem? (i := 3) rfl)
theorem w_4 {Z : State} {a0 : Array Value} (hw : OW Z a0) : (Jvm.Cond.instanceMethod ({ cls := "com/example/ration/ration/StrictWindow", name := "<init>", desc := "(J)V" } : Jvm.MethodName)).before a0 Z = true := hw _ (List.mem_of_getElem? (i := 4) rfl)
theorem w_5 {Z : State} {a0 : Array Value} (hw : OW Z a0) : (Jvm.Cond.code ({ cls := "com/example/ration/ration/StrictWindow", name := "<init>", desc := "(J)V" } : Jvm.MethodName) prog_27_method_1_code (3 : Nat) (Option.none : Option Jvm.ClassFile.FieldType)).before a0 Z = true := hw _ (List.mem_of_getElem? (i := 5) rfl)
theorem w_6 {Z : State} {a0 : Array Value} (hw : OW Z a0) : (Jvm.Cond.methodLink "com/example/ration/ration/StrictWindow" (1 : Nat) ({ cls := "java/lang/Object", name := "<init>", desc := "()V" } : Jvm.MethodName)).before a0 Z = true := hw _ (List.mem_of_getElem? (i := 6) rfl)
theorem w_7 {Z : State} {a0 : Array Value} (hw : OW Z a0) : (Jvm.Cond.instanceMethod ({ cls := "java/lang/Object", name := "<init>", desc := "()V" } : Jvm.MethodName)).before a0 Z = true := hw _ (List.mem_of_getElem? (i := 7) rfl)
theorem w_8 {Z : State} {a0 : Array Value} (hw : OW Z a0) : (Jvm.Cond.code ({ cls := "java/lang/Object", name := "<init>", desc := "()V" } : Jvm.MethodName) object_method_1_code (1 : Nat) (Option.none : Option Jvm.ClassFile.FieldType)).before a0 Z = true := hw _ (List.mem_of_getElem? (i := 8) rfl)
theorem w_9 {Z : State} {a0 : Array Value} (hw : OW Z a0) : (Jvm.Cond.arrayClass Jvm.ClassFile.FieldType.long).before a0 Z = true := hw _ (List.mem_of_getElem? (i := 9) rfl)
theorem w_10 {Z : State} {a0 : Array Value} (hw : OW Z a0) : (Jvm.Cond.fieldLink "com/example/ration/ration/StrictWindow" (9 : Nat) "com/example/ration/ration/StrictWindow" "times" "[J").before a0 Z = true := hw _ (List.mem_of_getElem? (i := 10) rfl)
theorem w_11 {Z : State} {a0 : Array Value} (hw : OW Z a0) : (Jvm.Cond.lays "com/example/ration/ration/StrictWindow" "com/example/ration/ration/StrictWindow" "times" "[J").before a0 Z = true := hw _ (List.mem_of_getElem? (i := 11) rfl)
theorem w_12 {Z : State} {a0 : Array Value} (hw : OW Z a0) : (Jvm.Cond.fieldLink "com/example/ration/ration/StrictWindow" (13 : Nat) "com/example/ration/ration/StrictWindow" "counts" "[J").before a0 Z = true := hw _ (List.mem_of_getElem? (i := 12) rfl)
theorem w_13 {Z : State} {a0 : Array Value} (hw : OW Z a0) : (Jvm.Cond.lays "com/example/ration/ration/StrictWindow" "com/example/ration/ration/StrictWindow" "counts" "[J").before a0 Z = true := hw _ (List.mem_of_getElem? (i := 13) rfl)
theorem w_14 {Z : State} {a0 : Array Value} (hw : OW Z a0) : (Jvm.Cond.fieldLink "com/example/ration/ration/StrictWindow" (16 : Nat) "com/example/ration/ration/StrictWindow" "intervalMs" "J").before a0 Z = true := hw _ (List.mem_of_getElem? (i := 14) rfl)
theorem w_15 {Z : State} {a0 : Array Value} (hw : OW Z a0) : (Jvm.Cond.laysFinal "com/example/ration/ration/StrictWindow" "com/example/ration/ration/StrictWindow" "intervalMs" "J").before a0 Z = true := hw _ (List.mem_of_getElem? (i := 15) rfl)
theorem w_16 {Z : State} {a0 : Array Value} (hw : OW Z a0) : (Jvm.Cond.methodLink "com/example/ration/ration/StrictWindowHasShapePinLaw" (12 : Nat) ({ cls := "com/example/ration/ration/StrictWindow", name := "hasShape", desc := "(JIZ)Z" } : Jvm.MethodName)).before a0 Z = true := hw _ (List.mem_of_getElem? (i := 16) rfl)
theorem w_17 {Z : State} {a0 : Array Value} (hw : OW Z a0) : (Jvm.Cond.declares ({ cls := "com/example/ration/ration/StrictWindow", name := "hasShape", desc := "(JIZ)Z" } : Jvm.MethodName)).before a0 Z = true := hw _ (List.mem_of_getElem? (i := 17) rfl)
theorem w_18 {Z : State} {a0 : Array Value} (hw : OW Z a0) : (Jvm.Cond.instanceMethod ({ cls := "com/example/ration/ration/StrictWindow", name := "hasShape", desc := "(JIZ)Z" } : Jvm.MethodName)).before a0 Z = true := hw _ (List.mem_of_getElem? (i := 18) rfl)
theorem w_19 {Z : State} {a0 : Array Value} (hw : OW Z a0) : (Jvm.Cond.selects "com/example/ration/ration/StrictWindow" ({ cls := "com/example/ration/ration/StrictWindow", name := "hasShape", desc := "(JIZ)Z" } : Jvm.MethodName) ({ cls := "com/example/ration/ration/StrictWindow", name := "hasShape", desc := "(JIZ)Z" } : Jvm.MethodName)).before a0 Z = true := hw _ (List.mem_of_getElem? (i := 19) rfl)
theorem w_20 {Z : State} {a0 : Array Value} (hw : OW Z a0) : (Jvm.Cond.code ({ cls := "com/example/ration/ration/StrictWindow", name := "hasShape", desc := "(JIZ)Z" } : Jvm.MethodName) prog_27_method_2_code (5 : Nat) (Option.some Jvm.ClassFile.FieldType.boolean)).before a0 Z = true := hw _ (List.mem_of_getElem? (i := 20) rfl)
theorem d1_0 : decode prog_27_method_1_code 0 = .ok (.aload_n 0, 1) := by decide +kernel
theorem d1_1 : decode prog_27_method_1_code 1 = .ok (.invokespecial 1, 3) := by decide +kernel
theorem d1_4 : decode prog_27_method_1_code 4 = .ok (.aload_n 0, 1) := by decide +kernel
theorem d1_5 : decode prog_27_method_1_code 5 = .ok (.iconst 4, 1) := by decide +kernel
theorem d1_6 : decode prog_27_method_1_code 6 = .ok (.newarray .long, 2) := by decide +kernel
theorem d1_8 : decode prog_27_method_1_code 8 = .ok (.putfield 9, 3) := by decide +kernel
theorem d1_11 : decode prog_27_method_1_code 11 = .ok (.aload_n 0, 1) := by decide +kernel
theorem d1_12 : decode prog_27_method_1_code 12 = .ok (.iconst 4, 1) := by decide +kernel
theorem d1_13 : decode prog_27_method_1_code 13 = .ok (.newarray .long, 2) := by decide +kernel
theorem d1_15 : decode prog_27_method_1_code 15 = .ok (.putfield 13, 3) := by decide +kernel
theorem d1_18 : decode prog_27_method_1_code 18 = .ok (.aload_n 0, 1) := by decide +kernel
theorem d1_19 : decode prog_27_method_1_code 19 = .ok (.lload_n 1, 1) := by decide +kernel
theorem d1_20 : decode prog_27_method_1_code 20 = .ok (.putfield 16, 3) := by decide +kernel
theorem d1_23 : decode prog_27_method_1_code 23 = .ok (.return_, 1) := by decide +kernel
theorem pn_1 : plainFor (⟨"com/example/ration/ration/StrictWindow", "<init>", "(J)V"⟩ : MethodName) = true := plainFor_of_name (by first | (simp [plainName, overriddenIn]; done) | decide +kernel)
set_option maxHeartbeats 4000000 in
theorem c_init (l : Launch) (Z : State) (a0 : Array Value) (hw : OW Z a0) (n0 : Nat) (a : Addr) (q : Int64) (h0 : Heap) (Z0 : n0 ≤ h0.size) (E_a : Exa Z h0 a "com/example/ration/ration/StrictWindow") (F_a_times : Fld Z h0 a "com/example/ration/ration/StrictWindow" "times" "[J" .null) (F_a_counts : Fld Z h0 a "com/example/ration/ration/StrictWindow" "counts" "[J" .null) (F_a_intervalMs : Fld Z h0 a "com/example/ration/ration/StrictWindow" "intervalMs" "J" (.long (0 : Int64))) (g_a : n0 ≤ a) :
    OCon l Z n0 (⟨"com/example/ration/ration/StrictWindow", "<init>", "(J)V"⟩ : MethodName) prog_27_method_1_code 3 none ({ frames := 1, cells := 2, slots := 8, locals := 12 } : Room) #[(.ref a), (.long q)] h0 (fun v h => v = none ∧ Keep h0 h [a] ∧ Exa Z h a "com/example/ration/ration/StrictWindow" ∧ Fld Z h a "com/example/ration/ration/StrictWindow" "intervalMs" "J" (.long q)) := by
  refine OCon.of (Ls := #[.val (.ref a), .val (.long q), .second]) pn_1 rfl rfl (fun m => by first | (simp [entryFrame, mkF, argsToLocals, Value.category]; done) | rfl) ?_
  intro p e s m below meth c T0 X0 K e0
  have N0 := Fr.nil n0
  have KK0 := Keep.refl h0 [a]
  refine o_aloadN X0 K d1_0 1 rfl rfl rfl ?_
  refine o_initO X0 K d1_1 4 rfl (w_6 hw) (w_7 hw) (w_8 hw) e0 rfl (by decide) 0 (Nat.le_of_eq rfl) (by decide) ?_
  intro T_1 X_1 e_1
  refine o_aloadN X_1 K d1_4 5 rfl rfl rfl ?_
  refine o_iconst X_1 K (4 : Int32) d1_5 6 rfl rfl ?_
  refine o_newarray X_1 K (n := 4) d1_6 8 rfl (w_9 hw) e_1 (by decide) 4 (by decide) (by decide) (by decide) (by decide) rfl ?_
  intro T_2 h_2 b_2 g_2 X_2 e_2 E_2 A_2
  dsimp only [newarray.typeOf, defaultValue] at A_2
  have Z_2 : n0 ≤ h_2.size := Nat.le_trans Z0 E_2.1
  have K_2 := KK0.ext E_2
  have f_3 := Exa.ext E_2 E_a
  have f_4 := Fld.ext E_2 F_a_times
  have f_5 := Fld.ext E_2 F_a_counts
  have f_6 := Fld.ext E_2 F_a_intervalMs
  have g_b_2 : n0 ≤ b_2 := by rw [g_2]; exact Z0
  have ne_a_b_2 : a ≠ b_2 := by rw [g_2]; exact Nat.ne_of_lt E_a.lt
  have sz_b_2 : h0.size ≤ b_2 := by rw [g_2]; exact KK0.1
  refine o_putfield X_2 K (host := "") (ty := (.array .long)) d1_8 11 rfl (Or.inl (w_10 hw)) Via.refl e_2 f_4 f_3 (Or.inl (w_11 hw)) (w_1 hw) (by decide) rfl rfl N0 g_a ?_
  intro T_7 h_7 locs_7 X_7 e_7 W_7 N_7
  have Z_7 : n0 ≤ h_7.size := by rw [Wr.size W_7]; exact Z_2
  have K_7 := K_2.wr W_7 (Or.inl (by simp))
  have f_8 := Exa.wr W_7 f_3
  have f_9 := Fld.same W_7 f_4
  have f_10 := Fld.other W_7 f_5 (Or.inr (slot_ne (Or.inl (w_13 hw)) (Or.inl (w_11 hw)) (by decide) (t := (.array .long)) (t' := (.array .long)) (by decide) (by decide)))
  have f_11 := Fld.other W_7 f_6 (Or.inr (slot_ne (Or.inr (w_15 hw)) (Or.inl (w_11 hw)) (by decide) (t := .long) (t' := (.array .long)) (by decide) (by decide)))
  have f_12 := A_2.other W_7 (Ne.symm ne_a_b_2)
  refine o_aloadN X_7 K d1_11 12 rfl rfl rfl ?_
  refine o_iconst X_7 K (4 : Int32) d1_12 13 rfl rfl ?_
  refine o_newarray X_7 K (n := 4) d1_13 15 rfl (w_9 hw) e_7 (by decide) 4 (by decide) (by decide) (by decide) (by decide) rfl ?_
  intro T_13 h_13 b_13 g_13 X_13 e_13 E_13 A_13
  dsimp only [newarray.typeOf, defaultValue] at A_13
  have Z_13 : n0 ≤ h_13.size := Nat.le_trans Z_7 E_13.1
  have K_13 := K_7.ext E_13
  have f_14 := Exa.ext E_13 f_8
  have f_15 := Fld.ext E_13 f_9
  have f_16 := Fld.ext E_13 f_10
  have f_17 := Fld.ext E_13 f_11
  have f_18 := f_12.ext E_13
  have g_b_13 : n0 ≤ b_13 := by rw [g_13]; exact Z_7
  have ne_a_b_13 : a ≠ b_13 := by rw [g_13]; exact Nat.ne_of_lt f_8.lt
  have ne_b_2_b_13 : b_2 ≠ b_13 := by rw [g_13]; exact Nat.ne_of_lt f_12.lt
  have sz_b_13 : h0.size ≤ b_13 := by rw [g_13]; exact K_7.1
  refine o_putfield X_13 K (host := "") (ty := (.array .long)) d1_15 18 rfl (Or.inl (w_12 hw)) Via.refl e_13 f_16 f_14 (Or.inl (w_13 hw)) (w_1 hw) (by decide) rfl rfl N_7 g_a ?_
  intro T_19 h_19 locs_19 X_19 e_19 W_19 N_19
  have Z_19 : n0 ≤ h_19.size := by rw [Wr.size W_19]; exact Z_13
  have K_19 := K_13.wr W_19 (Or.inl (by simp))
  have f_20 := Exa.wr W_19 f_14
  have f_21 := Fld.other W_19 f_15 (Or.inr (slot_ne (Or.inl (w_11 hw)) (Or.inl (w_13 hw)) (by decide) (t := (.array .long)) (t' := (.array .long)) (by decide) (by decide)))
  have f_22 := Fld.same W_19 f_16
  have f_23 := Fld.other W_19 f_17 (Or.inr (slot_ne (Or.inr (w_15 hw)) (Or.inl (w_13 hw)) (by decide) (t := .long) (t' := (.array .long)) (by decide) (by decide)))
  have f_24 := f_18.other W_19 (Ne.symm ne_a_b_2)
  have f_25 := A_13.other W_19 (Ne.symm ne_a_b_13)
  refine o_aloadN X_19 K d1_18 19 rfl rfl rfl ?_
  refine o_lloadN X_19 K d1_19 20 rfl rfl ?_
  refine o_putfield X_19 K (host := "") (ty := .long) d1_20 23 rfl (Or.inl (w_14 hw)) Via.refl e_19 f_23 f_20 (Or.inr ⟨(w_15 hw), rfl, rfl⟩) (w_1 hw) (by decide) rfl rfl N_19 g_a ?_
  intro T_26 h_26 locs_26 X_26 e_26 W_26 N_26
  have Z_26 : n0 ≤ h_26.size := by rw [Wr.size W_26]; exact Z_19
  have K_26 := K_19.wr W_26 (Or.inl (by simp))
  have f_27 := Exa.wr W_26 f_20
  have f_28 := Fld.other W_26 f_21 (Or.inr (slot_ne (Or.inl (w_11 hw)) (Or.inr (w_15 hw)) (by decide) (t := (.array .long)) (t' := .long) (by decide) (by decide)))
  have f_29 := Fld.other W_26 f_22 (Or.inr (slot_ne (Or.inl (w_13 hw)) (Or.inr (w_15 hw)) (by decide) (t := (.array .long)) (t' := .long) (by decide) (by decide)))
  have f_30 := Fld.same W_26 f_23
  have f_31 := f_24.other W_26 (Ne.symm ne_a_b_2)
  have f_32 := f_25.other W_26 (Ne.symm ne_a_b_13)
  refine o_return X_26 K d1_23 (by decide) (by decide) N_26 ?_
  rw [e_26]
  exact ⟨rfl, K_26, f_27, f_30⟩
theorem d3_0 : decode prog_27_method_2_code 0 = .ok (.iload 4, 2) := by decide +kernel
theorem d3_2 : decode prog_27_method_2_code 2 = .ok (.ifCond .eq 16, 3) := by decide +kernel
theorem d3_18 : decode prog_27_method_2_code 18 = .ok (.iconst 0, 1) := by decide +kernel
theorem d3_19 : decode prog_27_method_2_code 19 = .ok (.ireturn, 1) := by decide +kernel
theorem d3_5 : decode prog_27_method_2_code 5 = .ok (.aload_n 0, 1) := by decide +kernel
theorem d3_6 : decode prog_27_method_2_code 6 = .ok (.getfield 16, 3) := by decide +kernel
theorem d3_9 : decode prog_27_method_2_code 9 = .ok (.lload_n 1, 1) := by decide +kernel
theorem d3_10 : decode prog_27_method_2_code 10 = .ok (.lcmp, 1) := by decide +kernel
theorem d3_11 : decode prog_27_method_2_code 11 = .ok (.ifCond .ne 7, 3) := by decide +kernel
theorem d3_14 : decode prog_27_method_2_code 14 = .ok (.iconst 1, 1) := by decide +kernel
theorem d3_15 : decode prog_27_method_2_code 15 = .ok (.goto 4, 3) := by decide +kernel
theorem pn_3 : plainFor (⟨"com/example/ration/ration/StrictWindow", "hasShape", "(JIZ)Z"⟩ : MethodName) = true := plainFor_of_name (by first | (simp [plainName, overriddenIn]; done) | decide +kernel)
set_option maxHeartbeats 4000000 in
theorem c_has (l : Launch) (Z : State) (a0 : Array Value) (hw : OW Z a0) (n0 : Nat) (a : Addr) (q : Int64) (pb : Int32) (st : Int32) (iv : Int64) (h0 : Heap) (Z0 : n0 ≤ h0.size) (F_a_intervalMs : Fld Z h0 a "com/example/ration/ration/StrictWindow" "intervalMs" "J" (.long iv)) :
    OCon l Z n0 (⟨"com/example/ration/ration/StrictWindow", "hasShape", "(JIZ)Z"⟩ : MethodName) prog_27_method_2_code 5 (some .boolean) ({ frames := 0, cells := 0, slots := 0, locals := 0 } : Room) #[(.ref a), (.long q), (.int pb), (.int st)] h0 (fun v h => ∃ b : Int32, v = some (.int b) ∧ (b = 1 ∧ ¬ st = 0 ∧ iv = q ∨ b = 0 ∧ (st = 0 ∨ ¬ iv = q)) ∧ h = h0) := by
  refine OCon.of (Ls := #[.val (.ref a), .val (.long q), .second, .val (.int pb), .val (.int st)]) pn_3 rfl rfl (fun m => by first | (simp [entryFrame, mkF, argsToLocals, Value.category]; done) | rfl) ?_
  intro p e s m below meth c T0 X0 K e0
  have N0 := Fr.nil n0
  refine o_iload X0 K d3_0 2 rfl rfl ?_
  refine o_if_eq X0 K d3_2 18 (by decide) (by decide) 5 rfl (fun hc2 => ?_) (fun hc2 => ?_)
  · refine o_iconst X0 K (0 : Int32) d3_18 19 rfl rfl ?_
    refine o_ireturnN X0 K (by decide) d3_19 (by decide) (by decide) N0 ?_
    exact ⟨_, rfl, Or.inr ⟨rfl, Or.inl hc2⟩, e0⟩
  · refine o_aloadN X0 K d3_5 6 rfl rfl rfl ?_
    refine o_getfield X0 K (host := "") d3_6 9 rfl (Or.inl (w_14 hw)) Via.refl e0 F_a_intervalMs ?_
    intro T_33 X_33 e_33
    refine o_lloadN X_33 K d3_9 10 rfl rfl ?_
    refine o_lcmp X_33 K d3_10 11 rfl ?_
    refine o_if_ne X_33 K d3_11 18 (by decide) (by decide) 14 rfl (fun hc11 => ?_) (fun hc11 => ?_)
    · refine o_iconst X_33 K (0 : Int32) d3_18 19 rfl rfl ?_
      refine o_ireturnN X_33 K (by decide) d3_19 (by decide) (by decide) N0 ?_
      exact ⟨_, rfl, Or.inr ⟨rfl, Or.inr (fun z => hc11 (lw_eq _ _ |>.mpr z))⟩, e_33⟩
    · refine o_iconst X_33 K (1 : Int32) d3_14 15 rfl rfl ?_
      refine o_goto X_33 K d3_15 19 (by decide) (by decide) ?_
      refine o_ireturnN X_33 K (by decide) d3_19 (by decide) (by decide) N0 ?_
      exact ⟨_, rfl, Or.inl ⟨rfl, hc2, (lw_eq _ _).mp hc11⟩, e_33⟩
theorem o_add0 {x y : Int64} (h : x = x + y) : y = 0 := by
  have q := c_ladd x y
  rw [← h] at q
  have r := rng64 y
  rw [← Int64.toInt_inj]
  have z : (0 : Int64).toInt = 0 := rfl
  omega
theorem pd__J_V : parseMethodDescriptor "(J)V" = some ⟨[.long], none⟩ := by decide +kernel
theorem pd__JIZ_Z : parseMethodDescriptor "(JIZ)Z" = some ⟨[.long, .int, .boolean], some .boolean⟩ := by decide +kernel
theorem pn_0 : plainFor x = true := plainFor_of_name (by first | (simp [plainName, overriddenIn, x]; done) | decide +kernel)
set_option maxHeartbeats 4000000 in
theorem rm0 (l : Launch) (Z : State) (a0 : Array Value) (hw : OW Z a0) (n0 : Nat) (p0 p1 : Int64) (p2 p3 : Int32) (h0 : Heap) (Z0 : n0 ≤ h0.size) :
    OCon l Z n0 x code maxLocals ret room_1 #[(.long p0), (.long p1), (.int p2), (.int p3)] h0 (fun v _ => v = some (.int 1)) := by
  refine OCon.of (Ls := #[.val (.long p0), .second, .val (.long p1), .second, .val (.int p2), .val (.int p3), .unset, .unset, .unset, .unset, .unset, .unset, .unset, .unset]) pn_0 rfl rfl (fun m => by first | (simp [entryFrame, mkF, argsToLocals, Value.category, maxLocals]; done) | rfl) ?_
  intro p e s m below meth c T0 X0 K e0
  have N0 := Fr.nil n0
  refine o_iload X0 K at_0 2 rfl rfl ?_
  refine o_iconst X0 K (1 : Int32) at_2 3 rfl rfl ?_
  refine o_iand X0 K at_3 4 rfl ?_
  refine o_if_eq X0 K at_4 11 (by decide) (by decide) 7 rfl (fun hc4 => ?_) (fun hc4 => ?_)
  · refine o_iconst X0 K (0 : Int32) at_11 12 rfl rfl ?_
    refine o_istore X0 K at_12 14 rfl #[.val (.long p0), .second, .val (.long p1), .second, .val (.int p2), .val (.int p3), .val (.int (0 : Int32)), .unset, .unset, .unset, .unset, .unset, .unset, .unset] rfl rfl ?_
    refine o_iload X0 K at_14 16 rfl rfl ?_
    refine o_iconst X0 K (2 : Int32) at_16 17 rfl rfl ?_
    refine o_iand X0 K at_17 18 rfl ?_
    refine o_if_eq X0 K at_18 25 (by decide) (by decide) 21 rfl (fun hc18 => ?_) (fun hc18 => ?_)
    · refine o_iconst X0 K (0 : Int32) at_25 26 rfl rfl ?_
      refine o_istore X0 K at_26 28 rfl #[.val (.long p0), .second, .val (.long p1), .second, .val (.int p2), .val (.int p3), .val (.int (0 : Int32)), .val (.int (0 : Int32)), .unset, .unset, .unset, .unset, .unset, .unset] rfl rfl ?_
      refine o_iload X0 K at_28 30 rfl rfl ?_
      refine o_if_eq_t X0 K at_30 37 (by decide) (by decide) (by decide) ?_
      refine o_lloadN X0 K at_37 38 rfl rfl ?_
      refine o_lloadN X0 K at_38 39 rfl rfl ?_
      refine o_ladd X0 K at_39 40 rfl ?_
      refine o_lstore X0 K at_40 42 rfl #[.val (.long p0), .second, .val (.long p1), .second, .val (.int p2), .val (.int p3), .val (.int (0 : Int32)), .val (.int (0 : Int32)), .val (.long (p0 + p1)), .second, .unset, .unset, .unset, .unset] rfl rfl ?_
      refine o_new X0 K at_42 45 rfl (w_0 hw) (w_1 hw) (w_2 hw) e0 (by decide) (by decide) ?_
      intro T_34 h_34 b g_34 X_34 e_34 E_34 B_34 D_34
      have Z_34 : n0 ≤ h_34.size := Nat.le_trans Z0 E_34.1
      have g_b : n0 ≤ b := by rw [g_34]; exact Z0
      have F_times__34 : Fld Z h_34 b "com/example/ration/ration/StrictWindow" "times" "[J" .null := D_34 (Or.inl (w_11 hw)) (ty := (.array .long)) (by decide)
      have F_counts__34 : Fld Z h_34 b "com/example/ration/ration/StrictWindow" "counts" "[J" .null := D_34 (Or.inl (w_13 hw)) (ty := (.array .long)) (by decide)
      have F_intervalMs__34 : Fld Z h_34 b "com/example/ration/ration/StrictWindow" "intervalMs" "J" (.long (0 : Int64)) := D_34 (Or.inr (w_15 hw)) (ty := .long) (by decide)
      refine o_dup X_34 K at_45 46 rfl rfl ?_
      refine o_lloadN X_34 K at_46 47 rfl rfl ?_
      refine o_invokespecial X_34 K at_47 50 rfl rfl (w_3 hw) (w_4 hw) (w_2 hw) (w_5 hw) (by decide) [(.long p0)] [(.ref b)] rfl  (c_init l Z a0 hw n0 b p0 h_34 Z_34 B_34 F_times__34 F_counts__34 F_intervalMs__34 g_b) e_34 rfl (lenOf pd__J_V rfl) (by decide) 1 (Nat.le_of_eq rfl) (by decide) (by decide) (by decide) N0 ?_
      rintro _ T_35 h_35 locs_35 X_35 e_35 ⟨rfl, k_35, p_35f0, p_35f1⟩ N_35
      have Z_35 : n0 ≤ h_35.size := Nat.le_trans Z_34 k_35.1
      have f_36 := Exa.keep B_34 k_35
      show OGo p e below s n0 _ _ _ (T_35.setTop (mkF m 50 #[.val (.long p0), .second, .val (.long p1), .second, .val (.int p2), .val (.int p3), .val (.int (0 : Int32)), .val (.int (0 : Int32)), .val (.long (p0 + p1)), .second, .unset, .unset, .unset, .unset] [(.ref b)]))
      refine o_astore X_35 K at_50 52 rfl #[.val (.long p0), .second, .val (.long p1), .second, .val (.int p2), .val (.int p3), .val (.int (0 : Int32)), .val (.int (0 : Int32)), .val (.long (p0 + p1)), .second, .val (.ref b), .unset, .unset, .unset] rfl rfl ?_
      refine o_aload X_35 K at_52 54 rfl rfl rfl ?_
      refine o_lload X_35 K at_54 56 rfl rfl ?_
      refine o_iload X_35 K at_56 58 rfl rfl ?_
      refine o_iload X_35 K at_58 60 rfl rfl ?_
      refine o_invokevirtual X_35 K at_60 63 rfl (w_16 hw) (w_17 hw) (w_19 hw) (w_18 hw) (w_2 hw) (w_20 hw) (by decide) p_35f0 [(.long (p0 + p1)), (.int p2), (.int (0 : Int32))] [] rfl  (c_has l Z a0 hw n0 b (p0 + p1) p2 (0 : Int32) p0 h_35 Z_35 p_35f1) e_35 rfl (lenOf pd__JIZ_Z rfl) (by decide) 0 (Nat.le_of_eq rfl) (by decide) (by decide) (by decide) N_35 ?_
      rintro _ T_37 h_37 locs_37 X_37 q_37 ⟨r_got_37, rfl, hb_37, r_37⟩ N_37
      have e_37 := q_37.trans r_37
      show OGo p e below s n0 _ _ _ (T_37.setTop (mkF m 63 #[.val (.long p0), .second, .val (.long p1), .second, .val (.int p2), .val (.int p3), .val (.int (0 : Int32)), .val (.int (0 : Int32)), .val (.long (p0 + p1)), .second, .val (.ref b), .unset, .unset, .unset] [(.int r_got_37)]))
      refine o_istore X_37 K at_63 65 rfl #[.val (.long p0), .second, .val (.long p1), .second, .val (.int p2), .val (.int p3), .val (.int (0 : Int32)), .val (.int (0 : Int32)), .val (.long (p0 + p1)), .second, .val (.ref b), .val (.int r_got_37), .unset, .unset] rfl rfl ?_
      refine o_iload X_37 K at_65 67 rfl rfl ?_
      refine o_if_ne_f X_37 K at_67 70 rfl (by decide) ?_
      refine o_lloadN X_37 K at_70 71 rfl rfl ?_
      refine o_lconst X_37 K (0 : Int64) at_71 72 rfl rfl ?_
      refine o_lcmp X_37 K at_72 73 rfl ?_
      refine o_if_ne X_37 K at_73 80 (by decide) (by decide) 76 rfl (fun hc73 => ?_) (fun hc73 => ?_)
      · refine o_iconst X_37 K (0 : Int32) at_80 81 rfl rfl ?_
        refine o_istore X_37 K at_81 83 rfl #[.val (.long p0), .second, .val (.long p1), .second, .val (.int p2), .val (.int p3), .val (.int (0 : Int32)), .val (.int (0 : Int32)), .val (.long (p0 + p1)), .second, .val (.ref b), .val (.int r_got_37), .val (.int (0 : Int32)), .unset] rfl rfl ?_
        refine o_iload X_37 K at_83 85 rfl rfl ?_
        refine o_if_eq_t X_37 K at_85 97 (by decide) (by decide) (by decide) ?_
        refine o_iconst X_37 K (0 : Int32) at_97 98 rfl rfl ?_
        refine o_istore X_37 K at_98 100 rfl #[.val (.long p0), .second, .val (.long p1), .second, .val (.int p2), .val (.int p3), .val (.int (0 : Int32)), .val (.int (0 : Int32)), .val (.long (p0 + p1)), .second, .val (.ref b), .val (.int r_got_37), .val (.int (0 : Int32)), .val (.int (0 : Int32))] rfl rfl ?_
        refine o_iload X_37 K at_100 102 rfl rfl ?_
        refine o_iload X_37 K at_102 104 rfl rfl ?_
        have hf_37 : r_got_37 = (0 : Int32) := by
          rcases hb_37 with ⟨rfl, h1, h2⟩ | ⟨rfl, h1⟩
          · exact absurd rfl h1
          · rfl
        refine o_icmp_ne_f X_37 K at_104 107 rfl (hf_37) ?_
        refine o_iconst X_37 K (1 : Int32) at_107 108 rfl rfl ?_
        refine o_goto X_37 K at_108 112 (by decide) (by decide) ?_
        refine o_ireturnN X_37 K (by decide) at_112 (by decide) (by decide) N_37 ?_
        exact rfl
      · refine o_iconst X_37 K (1 : Int32) at_76 77 rfl rfl ?_
        refine o_goto X_37 K at_77 81 (by decide) (by decide) ?_
        refine o_istore X_37 K at_81 83 rfl #[.val (.long p0), .second, .val (.long p1), .second, .val (.int p2), .val (.int p3), .val (.int (0 : Int32)), .val (.int (0 : Int32)), .val (.long (p0 + p1)), .second, .val (.ref b), .val (.int r_got_37), .val (.int (1 : Int32)), .unset] rfl rfl ?_
        refine o_iload X_37 K at_83 85 rfl rfl ?_
        refine o_if_eq_t X_37 K at_85 97 (by decide) (by decide) (by decide) ?_
        refine o_iconst X_37 K (0 : Int32) at_97 98 rfl rfl ?_
        refine o_istore X_37 K at_98 100 rfl #[.val (.long p0), .second, .val (.long p1), .second, .val (.int p2), .val (.int p3), .val (.int (0 : Int32)), .val (.int (0 : Int32)), .val (.long (p0 + p1)), .second, .val (.ref b), .val (.int r_got_37), .val (.int (1 : Int32)), .val (.int (0 : Int32))] rfl rfl ?_
        refine o_iload X_37 K at_100 102 rfl rfl ?_
        refine o_iload X_37 K at_102 104 rfl rfl ?_
        have hf_37 : r_got_37 = (0 : Int32) := by
          rcases hb_37 with ⟨rfl, h1, h2⟩ | ⟨rfl, h1⟩
          · exact absurd rfl h1
          · rfl
        refine o_icmp_ne_f X_37 K at_104 107 rfl (hf_37) ?_
        refine o_iconst X_37 K (1 : Int32) at_107 108 rfl rfl ?_
        refine o_goto X_37 K at_108 112 (by decide) (by decide) ?_
        refine o_ireturnN X_37 K (by decide) at_112 (by decide) (by decide) N_37 ?_
        exact rfl
    · refine o_iconst X0 K (1 : Int32) at_21 22 rfl rfl ?_
      refine o_goto X0 K at_22 26 (by decide) (by decide) ?_
      refine o_istore X0 K at_26 28 rfl #[.val (.long p0), .second, .val (.long p1), .second, .val (.int p2), .val (.int p3), .val (.int (0 : Int32)), .val (.int (1 : Int32)), .unset, .unset, .unset, .unset, .unset, .unset] rfl rfl ?_
      refine o_iload X0 K at_28 30 rfl rfl ?_
      refine o_if_eq_f X0 K at_30 33 rfl (by decide) ?_
      refine o_lloadN X0 K at_33 34 rfl rfl ?_
      refine o_goto X0 K at_34 40 (by decide) (by decide) ?_
      refine o_lstore X0 K at_40 42 rfl #[.val (.long p0), .second, .val (.long p1), .second, .val (.int p2), .val (.int p3), .val (.int (0 : Int32)), .val (.int (1 : Int32)), .val (.long p0), .second, .unset, .unset, .unset, .unset] rfl rfl ?_
      refine o_new X0 K at_42 45 rfl (w_0 hw) (w_1 hw) (w_2 hw) e0 (by decide) (by decide) ?_
      intro T_38 h_38 b g_38 X_38 e_38 E_38 B_38 D_38
      have Z_38 : n0 ≤ h_38.size := Nat.le_trans Z0 E_38.1
      have g_b : n0 ≤ b := by rw [g_38]; exact Z0
      have F_times__38 : Fld Z h_38 b "com/example/ration/ration/StrictWindow" "times" "[J" .null := D_38 (Or.inl (w_11 hw)) (ty := (.array .long)) (by decide)
      have F_counts__38 : Fld Z h_38 b "com/example/ration/ration/StrictWindow" "counts" "[J" .null := D_38 (Or.inl (w_13 hw)) (ty := (.array .long)) (by decide)
      have F_intervalMs__38 : Fld Z h_38 b "com/example/ration/ration/StrictWindow" "intervalMs" "J" (.long (0 : Int64)) := D_38 (Or.inr (w_15 hw)) (ty := .long) (by decide)
      refine o_dup X_38 K at_45 46 rfl rfl ?_
      refine o_lloadN X_38 K at_46 47 rfl rfl ?_
      refine o_invokespecial X_38 K at_47 50 rfl rfl (w_3 hw) (w_4 hw) (w_2 hw) (w_5 hw) (by decide) [(.long p0)] [(.ref b)] rfl  (c_init l Z a0 hw n0 b p0 h_38 Z_38 B_38 F_times__38 F_counts__38 F_intervalMs__38 g_b) e_38 rfl (lenOf pd__J_V rfl) (by decide) 1 (Nat.le_of_eq rfl) (by decide) (by decide) (by decide) N0 ?_
      rintro _ T_39 h_39 locs_39 X_39 e_39 ⟨rfl, k_39, p_39f0, p_39f1⟩ N_39
      have Z_39 : n0 ≤ h_39.size := Nat.le_trans Z_38 k_39.1
      have f_40 := Exa.keep B_38 k_39
      show OGo p e below s n0 _ _ _ (T_39.setTop (mkF m 50 #[.val (.long p0), .second, .val (.long p1), .second, .val (.int p2), .val (.int p3), .val (.int (0 : Int32)), .val (.int (1 : Int32)), .val (.long p0), .second, .unset, .unset, .unset, .unset] [(.ref b)]))
      refine o_astore X_39 K at_50 52 rfl #[.val (.long p0), .second, .val (.long p1), .second, .val (.int p2), .val (.int p3), .val (.int (0 : Int32)), .val (.int (1 : Int32)), .val (.long p0), .second, .val (.ref b), .unset, .unset, .unset] rfl rfl ?_
      refine o_aload X_39 K at_52 54 rfl rfl rfl ?_
      refine o_lload X_39 K at_54 56 rfl rfl ?_
      refine o_iload X_39 K at_56 58 rfl rfl ?_
      refine o_iload X_39 K at_58 60 rfl rfl ?_
      refine o_invokevirtual X_39 K at_60 63 rfl (w_16 hw) (w_17 hw) (w_19 hw) (w_18 hw) (w_2 hw) (w_20 hw) (by decide) p_39f0 [(.long p0), (.int p2), (.int (0 : Int32))] [] rfl  (c_has l Z a0 hw n0 b p0 p2 (0 : Int32) p0 h_39 Z_39 p_39f1) e_39 rfl (lenOf pd__JIZ_Z rfl) (by decide) 0 (Nat.le_of_eq rfl) (by decide) (by decide) (by decide) N_39 ?_
      rintro _ T_41 h_41 locs_41 X_41 q_41 ⟨r_got_41, rfl, hb_41, r_41⟩ N_41
      have e_41 := q_41.trans r_41
      show OGo p e below s n0 _ _ _ (T_41.setTop (mkF m 63 #[.val (.long p0), .second, .val (.long p1), .second, .val (.int p2), .val (.int p3), .val (.int (0 : Int32)), .val (.int (1 : Int32)), .val (.long p0), .second, .val (.ref b), .unset, .unset, .unset] [(.int r_got_41)]))
      refine o_istore X_41 K at_63 65 rfl #[.val (.long p0), .second, .val (.long p1), .second, .val (.int p2), .val (.int p3), .val (.int (0 : Int32)), .val (.int (1 : Int32)), .val (.long p0), .second, .val (.ref b), .val (.int r_got_41), .unset, .unset] rfl rfl ?_
      refine o_iload X_41 K at_65 67 rfl rfl ?_
      refine o_if_ne_t X_41 K at_67 76 (by decide) (by decide) (by decide) ?_
      refine o_iconst X_41 K (1 : Int32) at_76 77 rfl rfl ?_
      refine o_goto X_41 K at_77 81 (by decide) (by decide) ?_
      refine o_istore X_41 K at_81 83 rfl #[.val (.long p0), .second, .val (.long p1), .second, .val (.int p2), .val (.int p3), .val (.int (0 : Int32)), .val (.int (1 : Int32)), .val (.long p0), .second, .val (.ref b), .val (.int r_got_41), .val (.int (1 : Int32)), .unset] rfl rfl ?_
      refine o_iload X_41 K at_83 85 rfl rfl ?_
      refine o_if_eq_t X_41 K at_85 97 (by decide) (by decide) (by decide) ?_
      refine o_iconst X_41 K (0 : Int32) at_97 98 rfl rfl ?_
      refine o_istore X_41 K at_98 100 rfl #[.val (.long p0), .second, .val (.long p1), .second, .val (.int p2), .val (.int p3), .val (.int (0 : Int32)), .val (.int (1 : Int32)), .val (.long p0), .second, .val (.ref b), .val (.int r_got_41), .val (.int (1 : Int32)), .val (.int (0 : Int32))] rfl rfl ?_
      refine o_iload X_41 K at_100 102 rfl rfl ?_
      refine o_iload X_41 K at_102 104 rfl rfl ?_
      have hf_41 : r_got_41 = (0 : Int32) := by
        rcases hb_41 with ⟨rfl, h1, h2⟩ | ⟨rfl, h1⟩
        · exact absurd rfl h1
        · rfl
      refine o_icmp_ne_f X_41 K at_104 107 rfl (hf_41) ?_
      refine o_iconst X_41 K (1 : Int32) at_107 108 rfl rfl ?_
      refine o_goto X_41 K at_108 112 (by decide) (by decide) ?_
      refine o_ireturnN X_41 K (by decide) at_112 (by decide) (by decide) N_41 ?_
      exact rfl
  · refine o_iconst X0 K (1 : Int32) at_7 8 rfl rfl ?_
    refine o_goto X0 K at_8 12 (by decide) (by decide) ?_
    refine o_istore X0 K at_12 14 rfl #[.val (.long p0), .second, .val (.long p1), .second, .val (.int p2), .val (.int p3), .val (.int (1 : Int32)), .unset, .unset, .unset, .unset, .unset, .unset, .unset] rfl rfl ?_
    refine o_iload X0 K at_14 16 rfl rfl ?_
    refine o_iconst X0 K (2 : Int32) at_16 17 rfl rfl ?_
    refine o_iand X0 K at_17 18 rfl ?_
    refine o_if_eq X0 K at_18 25 (by decide) (by decide) 21 rfl (fun hc18 => ?_) (fun hc18 => ?_)
    · refine o_iconst X0 K (0 : Int32) at_25 26 rfl rfl ?_
      refine o_istore X0 K at_26 28 rfl #[.val (.long p0), .second, .val (.long p1), .second, .val (.int p2), .val (.int p3), .val (.int (1 : Int32)), .val (.int (0 : Int32)), .unset, .unset, .unset, .unset, .unset, .unset] rfl rfl ?_
      refine o_iload X0 K at_28 30 rfl rfl ?_
      refine o_if_eq_t X0 K at_30 37 (by decide) (by decide) (by decide) ?_
      refine o_lloadN X0 K at_37 38 rfl rfl ?_
      refine o_lloadN X0 K at_38 39 rfl rfl ?_
      refine o_ladd X0 K at_39 40 rfl ?_
      refine o_lstore X0 K at_40 42 rfl #[.val (.long p0), .second, .val (.long p1), .second, .val (.int p2), .val (.int p3), .val (.int (1 : Int32)), .val (.int (0 : Int32)), .val (.long (p0 + p1)), .second, .unset, .unset, .unset, .unset] rfl rfl ?_
      refine o_new X0 K at_42 45 rfl (w_0 hw) (w_1 hw) (w_2 hw) e0 (by decide) (by decide) ?_
      intro T_42 h_42 b g_42 X_42 e_42 E_42 B_42 D_42
      have Z_42 : n0 ≤ h_42.size := Nat.le_trans Z0 E_42.1
      have g_b : n0 ≤ b := by rw [g_42]; exact Z0
      have F_times__42 : Fld Z h_42 b "com/example/ration/ration/StrictWindow" "times" "[J" .null := D_42 (Or.inl (w_11 hw)) (ty := (.array .long)) (by decide)
      have F_counts__42 : Fld Z h_42 b "com/example/ration/ration/StrictWindow" "counts" "[J" .null := D_42 (Or.inl (w_13 hw)) (ty := (.array .long)) (by decide)
      have F_intervalMs__42 : Fld Z h_42 b "com/example/ration/ration/StrictWindow" "intervalMs" "J" (.long (0 : Int64)) := D_42 (Or.inr (w_15 hw)) (ty := .long) (by decide)
      refine o_dup X_42 K at_45 46 rfl rfl ?_
      refine o_lloadN X_42 K at_46 47 rfl rfl ?_
      refine o_invokespecial X_42 K at_47 50 rfl rfl (w_3 hw) (w_4 hw) (w_2 hw) (w_5 hw) (by decide) [(.long p0)] [(.ref b)] rfl  (c_init l Z a0 hw n0 b p0 h_42 Z_42 B_42 F_times__42 F_counts__42 F_intervalMs__42 g_b) e_42 rfl (lenOf pd__J_V rfl) (by decide) 1 (Nat.le_of_eq rfl) (by decide) (by decide) (by decide) N0 ?_
      rintro _ T_43 h_43 locs_43 X_43 e_43 ⟨rfl, k_43, p_43f0, p_43f1⟩ N_43
      have Z_43 : n0 ≤ h_43.size := Nat.le_trans Z_42 k_43.1
      have f_44 := Exa.keep B_42 k_43
      show OGo p e below s n0 _ _ _ (T_43.setTop (mkF m 50 #[.val (.long p0), .second, .val (.long p1), .second, .val (.int p2), .val (.int p3), .val (.int (1 : Int32)), .val (.int (0 : Int32)), .val (.long (p0 + p1)), .second, .unset, .unset, .unset, .unset] [(.ref b)]))
      refine o_astore X_43 K at_50 52 rfl #[.val (.long p0), .second, .val (.long p1), .second, .val (.int p2), .val (.int p3), .val (.int (1 : Int32)), .val (.int (0 : Int32)), .val (.long (p0 + p1)), .second, .val (.ref b), .unset, .unset, .unset] rfl rfl ?_
      refine o_aload X_43 K at_52 54 rfl rfl rfl ?_
      refine o_lload X_43 K at_54 56 rfl rfl ?_
      refine o_iload X_43 K at_56 58 rfl rfl ?_
      refine o_iload X_43 K at_58 60 rfl rfl ?_
      refine o_invokevirtual X_43 K at_60 63 rfl (w_16 hw) (w_17 hw) (w_19 hw) (w_18 hw) (w_2 hw) (w_20 hw) (by decide) p_43f0 [(.long (p0 + p1)), (.int p2), (.int (1 : Int32))] [] rfl  (c_has l Z a0 hw n0 b (p0 + p1) p2 (1 : Int32) p0 h_43 Z_43 p_43f1) e_43 rfl (lenOf pd__JIZ_Z rfl) (by decide) 0 (Nat.le_of_eq rfl) (by decide) (by decide) (by decide) N_43 ?_
      rintro _ T_45 h_45 locs_45 X_45 q_45 ⟨r_got_45, rfl, hb_45, r_45⟩ N_45
      have e_45 := q_45.trans r_45
      show OGo p e below s n0 _ _ _ (T_45.setTop (mkF m 63 #[.val (.long p0), .second, .val (.long p1), .second, .val (.int p2), .val (.int p3), .val (.int (1 : Int32)), .val (.int (0 : Int32)), .val (.long (p0 + p1)), .second, .val (.ref b), .unset, .unset, .unset] [(.int r_got_45)]))
      refine o_istore X_45 K at_63 65 rfl #[.val (.long p0), .second, .val (.long p1), .second, .val (.int p2), .val (.int p3), .val (.int (1 : Int32)), .val (.int (0 : Int32)), .val (.long (p0 + p1)), .second, .val (.ref b), .val (.int r_got_45), .unset, .unset] rfl rfl ?_
      refine o_iload X_45 K at_65 67 rfl rfl ?_
      refine o_if_ne_f X_45 K at_67 70 rfl (by decide) ?_
      refine o_lloadN X_45 K at_70 71 rfl rfl ?_
      refine o_lconst X_45 K (0 : Int64) at_71 72 rfl rfl ?_
      refine o_lcmp X_45 K at_72 73 rfl ?_
      refine o_if_ne X_45 K at_73 80 (by decide) (by decide) 76 rfl (fun hc73 => ?_) (fun hc73 => ?_)
      · refine o_iconst X_45 K (0 : Int32) at_80 81 rfl rfl ?_
        refine o_istore X_45 K at_81 83 rfl #[.val (.long p0), .second, .val (.long p1), .second, .val (.int p2), .val (.int p3), .val (.int (1 : Int32)), .val (.int (0 : Int32)), .val (.long (p0 + p1)), .second, .val (.ref b), .val (.int r_got_45), .val (.int (0 : Int32)), .unset] rfl rfl ?_
        refine o_iload X_45 K at_83 85 rfl rfl ?_
        refine o_if_eq_f X_45 K at_85 88 rfl (by decide) ?_
        refine o_iload X_45 K at_88 90 rfl rfl ?_
        refine o_if_eq_t X_45 K at_90 97 (by decide) (by decide) (by decide) ?_
        refine o_iconst X_45 K (0 : Int32) at_97 98 rfl rfl ?_
        refine o_istore X_45 K at_98 100 rfl #[.val (.long p0), .second, .val (.long p1), .second, .val (.int p2), .val (.int p3), .val (.int (1 : Int32)), .val (.int (0 : Int32)), .val (.long (p0 + p1)), .second, .val (.ref b), .val (.int r_got_45), .val (.int (0 : Int32)), .val (.int (0 : Int32))] rfl rfl ?_
        refine o_iload X_45 K at_100 102 rfl rfl ?_
        refine o_iload X_45 K at_102 104 rfl rfl ?_
        have hf_45 : r_got_45 = (0 : Int32) := by
          rcases hb_45 with ⟨rfl, h1, h2⟩ | ⟨rfl, h1⟩
          · exact absurd ((lw_eq _ _).mpr (o_add0 h2)) hc73
          · rfl
        refine o_icmp_ne_f X_45 K at_104 107 rfl (hf_45) ?_
        refine o_iconst X_45 K (1 : Int32) at_107 108 rfl rfl ?_
        refine o_goto X_45 K at_108 112 (by decide) (by decide) ?_
        refine o_ireturnN X_45 K (by decide) at_112 (by decide) (by decide) N_45 ?_
        exact rfl
      · refine o_iconst X_45 K (1 : Int32) at_76 77 rfl rfl ?_
        refine o_goto X_45 K at_77 81 (by decide) (by decide) ?_
        refine o_istore X_45 K at_81 83 rfl #[.val (.long p0), .second, .val (.long p1), .second, .val (.int p2), .val (.int p3), .val (.int (1 : Int32)), .val (.int (0 : Int32)), .val (.long (p0 + p1)), .second, .val (.ref b), .val (.int r_got_45), .val (.int (1 : Int32)), .unset] rfl rfl ?_
        refine o_iload X_45 K at_83 85 rfl rfl ?_
        refine o_if_eq_f X_45 K at_85 88 rfl (by decide) ?_
        refine o_iload X_45 K at_88 90 rfl rfl ?_
        refine o_if_eq_f X_45 K at_90 93 rfl (by decide) ?_
        refine o_iconst X_45 K (1 : Int32) at_93 94 rfl rfl ?_
        refine o_goto X_45 K at_94 98 (by decide) (by decide) ?_
        refine o_istore X_45 K at_98 100 rfl #[.val (.long p0), .second, .val (.long p1), .second, .val (.int p2), .val (.int p3), .val (.int (1 : Int32)), .val (.int (0 : Int32)), .val (.long (p0 + p1)), .second, .val (.ref b), .val (.int r_got_45), .val (.int (1 : Int32)), .val (.int (1 : Int32))] rfl rfl ?_
        refine o_iload X_45 K at_100 102 rfl rfl ?_
        refine o_iload X_45 K at_102 104 rfl rfl ?_
        have hf_45 : r_got_45 = (1 : Int32) := by
          rcases hb_45 with ⟨rfl, h1, h2⟩ | ⟨rfl, h1⟩
          · rfl
          · rcases h1 with h1 | h1
            · exact absurd h1 (by decide)
            · exact absurd (by rw [(lw_eq _ _).mp hc73]; exact (Int64.add_zero _).symm) h1
        refine o_icmp_ne_f X_45 K at_104 107 rfl (hf_45) ?_
        refine o_iconst X_45 K (1 : Int32) at_107 108 rfl rfl ?_
        refine o_goto X_45 K at_108 112 (by decide) (by decide) ?_
        refine o_ireturnN X_45 K (by decide) at_112 (by decide) (by decide) N_45 ?_
        exact rfl
    · refine o_iconst X0 K (1 : Int32) at_21 22 rfl rfl ?_
      refine o_goto X0 K at_22 26 (by decide) (by decide) ?_
      refine o_istore X0 K at_26 28 rfl #[.val (.long p0), .second, .val (.long p1), .second, .val (.int p2), .val (.int p3), .val (.int (1 : Int32)), .val (.int (1 : Int32)), .unset, .unset, .unset, .unset, .unset, .unset] rfl rfl ?_
      refine o_iload X0 K at_28 30 rfl rfl ?_
      refine o_if_eq_f X0 K at_30 33 rfl (by decide) ?_
      refine o_lloadN X0 K at_33 34 rfl rfl ?_
      refine o_goto X0 K at_34 40 (by decide) (by decide) ?_
      refine o_lstore X0 K at_40 42 rfl #[.val (.long p0), .second, .val (.long p1), .second, .val (.int p2), .val (.int p3), .val (.int (1 : Int32)), .val (.int (1 : Int32)), .val (.long p0), .second, .unset, .unset, .unset, .unset] rfl rfl ?_
      refine o_new X0 K at_42 45 rfl (w_0 hw) (w_1 hw) (w_2 hw) e0 (by decide) (by decide) ?_
      intro T_46 h_46 b g_46 X_46 e_46 E_46 B_46 D_46
      have Z_46 : n0 ≤ h_46.size := Nat.le_trans Z0 E_46.1
      have g_b : n0 ≤ b := by rw [g_46]; exact Z0
      have F_times__46 : Fld Z h_46 b "com/example/ration/ration/StrictWindow" "times" "[J" .null := D_46 (Or.inl (w_11 hw)) (ty := (.array .long)) (by decide)
      have F_counts__46 : Fld Z h_46 b "com/example/ration/ration/StrictWindow" "counts" "[J" .null := D_46 (Or.inl (w_13 hw)) (ty := (.array .long)) (by decide)
      have F_intervalMs__46 : Fld Z h_46 b "com/example/ration/ration/StrictWindow" "intervalMs" "J" (.long (0 : Int64)) := D_46 (Or.inr (w_15 hw)) (ty := .long) (by decide)
      refine o_dup X_46 K at_45 46 rfl rfl ?_
      refine o_lloadN X_46 K at_46 47 rfl rfl ?_
      refine o_invokespecial X_46 K at_47 50 rfl rfl (w_3 hw) (w_4 hw) (w_2 hw) (w_5 hw) (by decide) [(.long p0)] [(.ref b)] rfl  (c_init l Z a0 hw n0 b p0 h_46 Z_46 B_46 F_times__46 F_counts__46 F_intervalMs__46 g_b) e_46 rfl (lenOf pd__J_V rfl) (by decide) 1 (Nat.le_of_eq rfl) (by decide) (by decide) (by decide) N0 ?_
      rintro _ T_47 h_47 locs_47 X_47 e_47 ⟨rfl, k_47, p_47f0, p_47f1⟩ N_47
      have Z_47 : n0 ≤ h_47.size := Nat.le_trans Z_46 k_47.1
      have f_48 := Exa.keep B_46 k_47
      show OGo p e below s n0 _ _ _ (T_47.setTop (mkF m 50 #[.val (.long p0), .second, .val (.long p1), .second, .val (.int p2), .val (.int p3), .val (.int (1 : Int32)), .val (.int (1 : Int32)), .val (.long p0), .second, .unset, .unset, .unset, .unset] [(.ref b)]))
      refine o_astore X_47 K at_50 52 rfl #[.val (.long p0), .second, .val (.long p1), .second, .val (.int p2), .val (.int p3), .val (.int (1 : Int32)), .val (.int (1 : Int32)), .val (.long p0), .second, .val (.ref b), .unset, .unset, .unset] rfl rfl ?_
      refine o_aload X_47 K at_52 54 rfl rfl rfl ?_
      refine o_lload X_47 K at_54 56 rfl rfl ?_
      refine o_iload X_47 K at_56 58 rfl rfl ?_
      refine o_iload X_47 K at_58 60 rfl rfl ?_
      refine o_invokevirtual X_47 K at_60 63 rfl (w_16 hw) (w_17 hw) (w_19 hw) (w_18 hw) (w_2 hw) (w_20 hw) (by decide) p_47f0 [(.long p0), (.int p2), (.int (1 : Int32))] [] rfl  (c_has l Z a0 hw n0 b p0 p2 (1 : Int32) p0 h_47 Z_47 p_47f1) e_47 rfl (lenOf pd__JIZ_Z rfl) (by decide) 0 (Nat.le_of_eq rfl) (by decide) (by decide) (by decide) N_47 ?_
      rintro _ T_49 h_49 locs_49 X_49 q_49 ⟨r_got_49, rfl, hb_49, r_49⟩ N_49
      have e_49 := q_49.trans r_49
      show OGo p e below s n0 _ _ _ (T_49.setTop (mkF m 63 #[.val (.long p0), .second, .val (.long p1), .second, .val (.int p2), .val (.int p3), .val (.int (1 : Int32)), .val (.int (1 : Int32)), .val (.long p0), .second, .val (.ref b), .unset, .unset, .unset] [(.int r_got_49)]))
      refine o_istore X_49 K at_63 65 rfl #[.val (.long p0), .second, .val (.long p1), .second, .val (.int p2), .val (.int p3), .val (.int (1 : Int32)), .val (.int (1 : Int32)), .val (.long p0), .second, .val (.ref b), .val (.int r_got_49), .unset, .unset] rfl rfl ?_
      refine o_iload X_49 K at_65 67 rfl rfl ?_
      refine o_if_ne_t X_49 K at_67 76 (by decide) (by decide) (by decide) ?_
      refine o_iconst X_49 K (1 : Int32) at_76 77 rfl rfl ?_
      refine o_goto X_49 K at_77 81 (by decide) (by decide) ?_
      refine o_istore X_49 K at_81 83 rfl #[.val (.long p0), .second, .val (.long p1), .second, .val (.int p2), .val (.int p3), .val (.int (1 : Int32)), .val (.int (1 : Int32)), .val (.long p0), .second, .val (.ref b), .val (.int r_got_49), .val (.int (1 : Int32)), .unset] rfl rfl ?_
      refine o_iload X_49 K at_83 85 rfl rfl ?_
      refine o_if_eq_f X_49 K at_85 88 rfl (by decide) ?_
      refine o_iload X_49 K at_88 90 rfl rfl ?_
      refine o_if_eq_f X_49 K at_90 93 rfl (by decide) ?_
      refine o_iconst X_49 K (1 : Int32) at_93 94 rfl rfl ?_
      refine o_goto X_49 K at_94 98 (by decide) (by decide) ?_
      refine o_istore X_49 K at_98 100 rfl #[.val (.long p0), .second, .val (.long p1), .second, .val (.int p2), .val (.int p3), .val (.int (1 : Int32)), .val (.int (1 : Int32)), .val (.long p0), .second, .val (.ref b), .val (.int r_got_49), .val (.int (1 : Int32)), .val (.int (1 : Int32))] rfl rfl ?_
      refine o_iload X_49 K at_100 102 rfl rfl ?_
      refine o_iload X_49 K at_102 104 rfl rfl ?_
      have hf_49 : r_got_49 = (1 : Int32) := by
        rcases hb_49 with ⟨rfl, h1, h2⟩ | ⟨rfl, h1⟩
        · rfl
        · rcases h1 with h1 | h1
          · exact absurd h1 (by decide)
          · exact absurd rfl h1
      refine o_icmp_ne_f X_49 K at_104 107 rfl (hf_49) ?_
      refine o_iconst X_49 K (1 : Int32) at_107 108 rfl rfl ?_
      refine o_goto X_49 K at_108 112 (by decide) (by decide) ?_
      refine o_ireturnN X_49 K (by decide) at_112 (by decide) (by decide) N_49 ?_
      exact rfl
set_option maxHeartbeats 4000000 in
theorem comes_1 {Post : Tables → Env → Array Value → State → Outcome → State → Prop} (hpost : ∀ tb e args s v u, (limb_1_1.after args s (.returned v) u = true ∧ limb_1_2.after args s (.returned v) u = true ∧ True) → FrameEnd s (.returned v) u (Jvm.fieldLocs frame_1_writes args s ++ Jvm.arrayLocs frame_1_arrays args s ++ Jvm.staticLocs frame_1_statics s) 16 128 → Post tb e args s (.returned v) u) :
    ArmFor flags0 classFile x code maxLocals ret World_1 tables_1 room_1 Calls_1 rest_1 Pre_1 Post := by
  intro l hfl _ _ p e ha hc hk s m args below hf hA hF happ hP
  obtain ⟨hcalls, hrest, hpre⟩ := hP
  obtain ⟨-, -, -, hnamed, -, -, -, hat⟩ := (Spec.applies_iff hf).mp happ
  obtain ⟨hg, hn⟩ := and_e (Cond.before_iff.mp (show (Jvm.Cond.and given_1 narrow_1).before args s = true from hpre))
  obtain ⟨g1, g2⟩ := and_e hg
  obtain ⟨g3, g4⟩ := and_e g2
  obtain ⟨g5, g6⟩ := and_e g4
  obtain ⟨g7, g8⟩ := and_e g6
  obtain ⟨w0, w1, w2, w3, rfl⟩ : ∃ w0 w1 w2 w3 : Value, args = #[w0, w1, w2, w3] := by
    have hs : args.size = 4 := by simpa [Cond.value, given_1] using g1
    obtain ⟨L⟩ := args
    match L, hs with
    | [w0, w1, w2, w3], _ => exact ⟨w0, w1, w2, w3, rfl⟩
  have hw := fun d (hd : d ∈ tables_1) => atoms_spec (ws := Jvm.Cond.code x code maxLocals ret :: tables_1) hat d (List.mem_cons_of_mem _ hd)
  have hfit : Fit s := fun {y c} hc i hi => by
    obtain ⟨ha, rfl⟩ := Array.getElem?_eq_some_iff.mp hc
    have q := List.all_eq_true.mp ((Array.all_eq_true_iff_forall_mem.mp hF) _ (Array.getElem_mem ha)) i (List.mem_range.mpr hi)
    simpa [Array.getElem?_eq_getElem hi] using q
  obtain ⟨i0, ei0⟩ := isL_v g3
  obtain rfl : w0 = (.long i0) := Option.some.inj ei0
  obtain ⟨i1, ei1⟩ := isL_v g5
  obtain rfl : w1 = (.long i1) := Option.some.inj ei1
  obtain ⟨i2, ei2⟩ := is_v g7
  obtain rfl : w2 = (.int i2) := Option.some.inj ei2
  obtain ⟨i3, ei3⟩ := is_v g8
  obtain rfl : w3 = (.int i3) := Option.some.inj ei3
  obtain ⟨n, o, h1, h2, h3, _, L, rfl, ⟨rfl, N⟩, hq⟩ := rm0 l s _ hw s.heap.size i0 i1 i2 i3 s.heap (Nat.le_refl _)  tables_1 p e ha hc hk s m _ below hf ((Spec.applies_iff_loose hf).mp happ).1 ⟨rfl, State.Warmed39.refl s, rfl⟩ trivial
  refine ⟨n, _, h1, h2, h3, hpost _ _ _ _ _ _ ⟨Cond.after_iff.mpr rfl, Cond.after_iff.mpr (eq_i res_at (Term.int_eval (1)) rfl), trivial⟩ ⟨hq.1, hq.2.1, (hq.2.2.sift fun y hy => Or.inr (N y hy)).mono (by decide) (by decide)⟩⟩
theorem main_1_1 : Claimed_1_1 := comes_1 fun _ _ _ _ _ _ h hF => ⟨h.1, hF⟩
theorem main_1_2 : Claimed_1_2 := comes_1 fun _ _ _ _ _ _ h hF => ⟨h.2.1, hF⟩
end Jvm.Pilot.@@N@@
