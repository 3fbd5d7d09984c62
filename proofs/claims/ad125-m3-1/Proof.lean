import JvmDerived
import JvmDerived.Pilot.@@N@@Statement
import JvmDerived.Pilot.@@N@@Code
set_option linter.unusedVariables false
set_option linter.unusedSimpArgs false
namespace Jvm.RoadKit
open Sem ClassFile Op Lib Jvm.Stand Jvm.Free Jvm.LawKit
section New
variable {p : Program} {l : Launch} {e : Env} {R : Room} {s : State} {m : MethodId} {args : Array Value} {below : List Frame} {meth : Method} {c : Code} {T : State} {locs : List Loc} {cells slots : Nat}
theorem retI (X : Stand p l e R s m args below meth c T locs cells slots) (hx : p.tables.exec = Jvm.exec) {pc : Nat} {Ls : Array Slot} {z : Int32} {rest : List Value} (hret : meth.sig.returnType = some .int) (hd : decode c.code pc = .ok (.ireturn, 1)) {fs : List Frame}
    (hl : ∀ (f : JFrame) (acts : List Action), f.method = m → f.locked = none → f.entered = [] → (doReturn e (T.setTop f) acts (some (.int z))).1 = T.setFrames fs) : Steps p.tables e below (T.setTop (mkF m pc Ls (.int z :: rest))) (T.setFrames fs) := by
  have hm' : T.vm.method? m = some meth := X.method'
  have hn : narrow .int (.int z) = .int z := rfl
  show Steps p.tables e below (T.setTop { method := m, pc := pc, locals := Ls, stack := _ :: rest, locked := none }) _
  jvm_step X.here [X.here.top, hx, hd, hm', hret, hn]
  first | (intro acts; rw [hl _ acts rfl rfl rfl]) | rw [hl _ _ rfl rfl rfl]
  exact Steps.refl _
end New
end Jvm.RoadKit
namespace Jvm.Pilot.@@N@@
open Jvm Jvm.ClassFile Sem Op Lib Jvm.Free Jvm.Stand Jvm.LawKit Jvm.RoadKit Bundle Jvm.Pilot.@@N@@.Jvm.D
section Own
variable {p : Program} {l : Launch} {e : Env} {R : Room} {s : State} {m : MethodId} {args : Array Value} {below : List Frame} {meth : Method} {c : Code} {T : State} {locs : List Loc} {cells slots : Nat} {Z : State} {a0 : Array Value} {h h' : Heap} {n0 : Nat} {Q : Option Value → Heap → Prop} {kc ks : Nat} {Ls : Array Slot} {St : List Value} {pc : Nat} {own nm : String} {bytes : ByteArray} {maxL : Nat} {ret : Option FieldType}
/-- the rest of a run: from S the method ends by returning; Q says what it returns and leaves; nothing below n0 is written -/
def OGo (p : Program) (e : Env) (below : List Frame) (s : State) (n0 : Nat) (Q : Option Value → Heap → Prop) (kc ks : Nat) (S : State) : Prop :=
  ∃ U o, Steps p.tables e below S U ∧ U.status = .running ∧ Ended U below o ∧ ∃ v L, o = .returned v ∧ (Q v U.heap ∧ Fr n0 L) ∧ FrameEnd s o U L kc ks
theorem OGo.st {A B : State} (k : ∀ t, Steps p.tables e below A t → Steps p.tables e below B t) (g : OGo p e below s n0 Q kc ks A) : OGo p e below s n0 Q kc ks B := by
  obtain ⟨U, o, h1, r⟩ := g
  exact ⟨U, o, k U h1, r⟩
theorem OGo.imp {A : State} {Q' : Option Value → Heap → Prop} (k : ∀ v h, Q' v h → Q v h) (g : OGo p e below s n0 Q' kc ks A) : OGo p e below s n0 Q kc ks A := by
  obtain ⟨U, o, h1, h2, h3, v, L, h4, ⟨h5, h6⟩, h7⟩ := g
  exact ⟨U, o, h1, h2, h3, v, L, h4, ⟨k _ _ h5, h6⟩, h7⟩
/-- what a walk knows of the method in which it stands -/
def OCx (p : Program) (s : State) (m : MethodId) (meth : Method) (c : Code) (Z : State) (own nm : String) (bytes : ByteArray) (maxL : Nat) (ret : Option FieldType) : Prop :=
  p.tables.exec = Jvm.exec ∧ Z.Warmed39 s.vm ∧ c.code = bytes ∧ c.maxLocals = maxL ∧ s.vm.findClass own = some m.cls ∧ meth.name = nm ∧ meth.sig.returnType = ret ∧ meth.locks = false
theorem OCx.hx (K : OCx p s m meth c Z own nm bytes maxL ret) : p.tables.exec = Jvm.exec := K.1
theorem OCx.hZ (K : OCx p s m meth c Z own nm bytes maxL ret) : Z.Warmed39 s.vm := K.2.1
theorem OCx.hby (K : OCx p s m meth c Z own nm bytes maxL ret) : c.code = bytes := K.2.2.1
theorem OCx.hml (K : OCx p s m meth c Z own nm bytes maxL ret) : c.maxLocals = maxL := K.2.2.2.1
theorem OCx.hown (K : OCx p s m meth c Z own nm bytes maxL ret) : s.vm.findClass own = some m.cls := K.2.2.2.2.1
theorem OCx.hnm (K : OCx p s m meth c Z own nm bytes maxL ret) : meth.name = nm := K.2.2.2.2.2.1
theorem OCx.hret (K : OCx p s m meth c Z own nm bytes maxL ret) : meth.sig.returnType = ret := K.2.2.2.2.2.2.1
theorem OCx.hlk (K : OCx p s m meth c Z own nm bytes maxL ret) : meth.locks = false := K.2.2.2.2.2.2.2
/-- a body's contract: called with these arguments at this heap it returns, and Q -/
def OCon (l : Launch) (Z : State) (n0 : Nat) (y : MethodName) (bytes : ByteArray) (maxL : Nat) (ret : Option FieldType) (rm : Room) (as : Array Value) (h0 : Heap) (Q : Option Value → Heap → Prop) : Prop :=
  ∀ ws, MetFree l y (head1 (Jvm.Cond.code y bytes maxL ret :: ws) rm) (fun a U => a = as ∧ Z.Warmed39 U.vm ∧ U.heap = h0) (fun _ _ _ _ _ => True) (fun _ U o U' => ∃ v L, o = .returned v ∧ (Q v U'.heap ∧ Fr n0 L) ∧ FrameEnd U o U' L rm.cells rm.slots)
theorem OCon.of {y : MethodName} {rm : Room} {as : Array Value} {h0 : Heap} {Ls : Array Slot} (hpl : plainFor y = true) (ho : y.cls = own) (hn : y.name = nm) (hen : ∀ m, entryFrame m as maxL = mkF m 0 Ls [])
    (H : ∀ (p : Program) (e : Env) (s : State) (m : MethodId) (below : List Frame) (meth : Method) (c : Code) (T : State), Stand p l e rm s m as below meth c T [] 0 0 → OCx p s m meth c Z own nm bytes maxL ret → T.heap = h0 → OGo p e below s n0 Q rm.cells rm.slots (T.setTop (mkF m 0 Ls []))) : OCon l Z n0 y bytes maxL ret rm as h0 Q := by
  intro ws
  refine MetFree.of_bodySF hpl hisR ?_
  intro p e s m args below meth c s₁ Bd hml0 hP hK
  obtain ⟨rfl, hZ, hh⟩ := hP
  subst ho hn
  obtain ⟨U, o, h1, r⟩ := H p e s m below meth c s₁ (Stand.of_body Bd) ⟨Bd.exec, hZ, Bd.bytes, hml0, findClass_of_methodNamed Bd.named, (name_of_methodNamed Bd.named Bd.method).1, Bd.returns, Bd.notSynchronized⟩ (by rw [← hh, Bd.state]; rfl)
  exact ⟨U, o, castTop (hen m) h1, r⟩
theorem OCon.imp {y : MethodName} {rm : Room} {as : Array Value} {h0 : Heap} {Q' : Option Value → Heap → Prop} (g : OCon l Z n0 y bytes maxL ret rm as h0 Q) (k : ∀ v h, Q v h → Q' v h) : OCon l Z n0 y bytes maxL ret rm as h0 Q' := by
  intro ws p e ha hc hk s m args below hf happ hP hK
  obtain ⟨n, o, h1, h2, h3, v, L, h4, ⟨h5, h6⟩, h7⟩ := g ws p e ha hc hk s m args below hf happ hP hK
  exact ⟨n, o, h1, h2, h3, v, L, h4, ⟨k _ _ h5, h6⟩, h7⟩

theorem o_iload (X : Stand p l e R s m args below meth c T locs cells slots) (K : OCx p s m meth c Z own nm bytes maxL ret) {k : Nat} {v : Int32} (hd : decode bytes pc = .ok (.iload k, 2)) (pc' : Nat) (hp : pc + 2 = pc') (hl : Ls[k]? = some (.val (.int v))) (hr : OGo p e below s n0 Q kc ks (T.setTop (mkF m pc' Ls (.int v :: St)))) : OGo p e below s n0 Q kc ks (T.setTop (mkF m pc Ls St)) := by
  subst hp
  exact OGo.st (fun _ k => XS.iload X.here K.hx rfl (hb K.hby hd) hl k) hr
theorem o_iloadN (X : Stand p l e R s m args below meth c T locs cells slots) (K : OCx p s m meth c Z own nm bytes maxL ret) {k : Fin 4} {v : Int32} (hd : decode bytes pc = .ok (.iload_n k, 1)) (pc' : Nat) (hp : pc + 1 = pc') (hl : Ls[k.val]? = some (.val (.int v))) (hr : OGo p e below s n0 Q kc ks (T.setTop (mkF m pc' Ls (.int v :: St)))) : OGo p e below s n0 Q kc ks (T.setTop (mkF m pc Ls St)) := by
  subst hp
  exact OGo.st (fun _ k => XS.iloadN X.here K.hx rfl (hb K.hby hd) hl k) hr
theorem o_lload (X : Stand p l e R s m args below meth c T locs cells slots) (K : OCx p s m meth c Z own nm bytes maxL ret) {k : Nat} {v : Int64} (hd : decode bytes pc = .ok (.lload k, 2)) (pc' : Nat) (hp : pc + 2 = pc') (hl : Ls[k]? = some (.val (.long v))) (hr : OGo p e below s n0 Q kc ks (T.setTop (mkF m pc' Ls (.long v :: St)))) : OGo p e below s n0 Q kc ks (T.setTop (mkF m pc Ls St)) := by
  subst hp
  exact OGo.st (fun _ k => XS.lload X.here K.hx rfl (hb K.hby hd) hl k) hr
theorem o_lloadN (X : Stand p l e R s m args below meth c T locs cells slots) (K : OCx p s m meth c Z own nm bytes maxL ret) {k : Fin 4} {v : Int64} (hd : decode bytes pc = .ok (.lload_n k, 1)) (pc' : Nat) (hp : pc + 1 = pc') (hl : Ls[k.val]? = some (.val (.long v))) (hr : OGo p e below s n0 Q kc ks (T.setTop (mkF m pc' Ls (.long v :: St)))) : OGo p e below s n0 Q kc ks (T.setTop (mkF m pc Ls St)) := by
  subst hp
  exact OGo.st (fun _ k => XS.lloadN X.here K.hx rfl (hb K.hby hd) hl k) hr
theorem o_aload (X : Stand p l e R s m args below meth c T locs cells slots) (K : OCx p s m meth c Z own nm bytes maxL ret) {k : Nat} {v : Value} (hd : decode bytes pc = .ok (.aload k, 2)) (pc' : Nat) (hp : pc + 2 = pc') (hl : Ls[k]? = some (.val v)) (hv : v.isRef = true) (hr : OGo p e below s n0 Q kc ks (T.setTop (mkF m pc' Ls (v :: St)))) : OGo p e below s n0 Q kc ks (T.setTop (mkF m pc Ls St)) := by
  subst hp
  exact OGo.st (fun _ k => XS.aload X.here K.hx rfl (hb K.hby hd) hl hv k) hr
theorem o_aloadN (X : Stand p l e R s m args below meth c T locs cells slots) (K : OCx p s m meth c Z own nm bytes maxL ret) {k : Fin 4} {v : Value} (hd : decode bytes pc = .ok (.aload_n k, 1)) (pc' : Nat) (hp : pc + 1 = pc') (hl : Ls[k.val]? = some (.val v)) (hv : v.isRef = true) (hr : OGo p e below s n0 Q kc ks (T.setTop (mkF m pc' Ls (v :: St)))) : OGo p e below s n0 Q kc ks (T.setTop (mkF m pc Ls St)) := by
  subst hp
  exact OGo.st (fun _ k => XS.aloadN X.here K.hx rfl (hb K.hby hd) hl hv k) hr
theorem o_istore (X : Stand p l e R s m args below meth c T locs cells slots) (K : OCx p s m meth c Z own nm bytes maxL ret) {k : Nat} {x x' : Int32} (hd : decode bytes pc = .ok (.istore k, 2)) (pc' : Nat) (hp : pc + 2 = pc') (Ls' : Array Slot) (hv : x = x') (hl : storeLocals Ls k (.int x') = some Ls') (hr : OGo p e below s n0 Q kc ks (T.setTop (mkF m pc' Ls' St))) : OGo p e below s n0 Q kc ks (T.setTop (mkF m pc Ls (.int x :: St))) := by
  subst hp
  exact OGo.st (fun _ k => XS.istore X.here K.hx rfl (hb K.hby hd) rfl (hv ▸ hl) k) hr
theorem o_istoreN (X : Stand p l e R s m args below meth c T locs cells slots) (K : OCx p s m meth c Z own nm bytes maxL ret) {k : Fin 4} {x x' : Int32} (hd : decode bytes pc = .ok (.istore_n k, 1)) (pc' : Nat) (hp : pc + 1 = pc') (Ls' : Array Slot) (hv : x = x') (hl : storeLocals Ls k.val (.int x') = some Ls') (hr : OGo p e below s n0 Q kc ks (T.setTop (mkF m pc' Ls' St))) : OGo p e below s n0 Q kc ks (T.setTop (mkF m pc Ls (.int x :: St))) := by
  subst hp
  exact OGo.st (fun _ k => XS.istoreN X.here K.hx rfl (hb K.hby hd) rfl (hv ▸ hl) k) hr
theorem o_lstore (X : Stand p l e R s m args below meth c T locs cells slots) (K : OCx p s m meth c Z own nm bytes maxL ret) {k : Nat} {x x' : Int64} (hd : decode bytes pc = .ok (.lstore k, 2)) (pc' : Nat) (hp : pc + 2 = pc') (Ls' : Array Slot) (hv : x = x') (hl : storeLocals Ls k (.long x') = some Ls') (hr : OGo p e below s n0 Q kc ks (T.setTop (mkF m pc' Ls' St))) : OGo p e below s n0 Q kc ks (T.setTop (mkF m pc Ls (.long x :: St))) := by
  subst hp
  exact OGo.st (fun _ k => XS.lstore X.here K.hx rfl (hb K.hby hd) rfl (hv ▸ hl) k) hr
theorem o_lstoreN (X : Stand p l e R s m args below meth c T locs cells slots) (K : OCx p s m meth c Z own nm bytes maxL ret) {k : Fin 4} {x x' : Int64} (hd : decode bytes pc = .ok (.lstore_n k, 1)) (pc' : Nat) (hp : pc + 1 = pc') (Ls' : Array Slot) (hv : x = x') (hl : storeLocals Ls k.val (.long x') = some Ls') (hr : OGo p e below s n0 Q kc ks (T.setTop (mkF m pc' Ls' St))) : OGo p e below s n0 Q kc ks (T.setTop (mkF m pc Ls (.long x :: St))) := by
  subst hp
  exact OGo.st (fun _ k => XS.lstoreN X.here K.hx rfl (hb K.hby hd) rfl (hv ▸ hl) k) hr
theorem o_astore (X : Stand p l e R s m args below meth c T locs cells slots) (K : OCx p s m meth c Z own nm bytes maxL ret) {k : Nat} {x : Value} (hd : decode bytes pc = .ok (.astore k, 2)) (pc' : Nat) (hp : pc + 2 = pc') (Ls' : Array Slot) (hv : x.isRef = true) (hl : storeLocals Ls k x = some Ls') (hr : OGo p e below s n0 Q kc ks (T.setTop (mkF m pc' Ls' St))) : OGo p e below s n0 Q kc ks (T.setTop (mkF m pc Ls (x :: St))) := by
  subst hp
  exact OGo.st (fun _ k => XS.astore X.here K.hx rfl (hb K.hby hd) rfl hv hl k) hr
theorem o_astoreN (X : Stand p l e R s m args below meth c T locs cells slots) (K : OCx p s m meth c Z own nm bytes maxL ret) {k : Fin 4} {x : Value} (hd : decode bytes pc = .ok (.astore_n k, 1)) (pc' : Nat) (hp : pc + 1 = pc') (Ls' : Array Slot) (hv : x.isRef = true) (hl : storeLocals Ls k.val x = some Ls') (hr : OGo p e below s n0 Q kc ks (T.setTop (mkF m pc' Ls' St))) : OGo p e below s n0 Q kc ks (T.setTop (mkF m pc Ls (x :: St))) := by
  subst hp
  exact OGo.st (fun _ k => XS.astoreN X.here K.hx rfl (hb K.hby hd) rfl hv hl k) hr
theorem o_iinc (X : Stand p l e R s m args below meth c T locs cells slots) (K : OCx p s m meth c Z own nm bytes maxL ret) {k : Nat} {cst : Int} {x x' : Int32} (hd : decode bytes pc = .ok (.iinc k cst, 3)) (pc' : Nat) (hp : pc + 3 = pc') (Ls' : Array Slot) (hl : Ls[k]? = some (.val (.int x))) (hv : x + Int32.ofInt cst = x') (hl' : storeLocals Ls k (.int x') = some Ls') (hr : OGo p e below s n0 Q kc ks (T.setTop (mkF m pc' Ls' St))) : OGo p e below s n0 Q kc ks (T.setTop (mkF m pc Ls St)) := by
  subst hp
  exact OGo.st (fun _ k => XS.iinc X.here K.hx rfl (hb K.hby hd) hl (hv ▸ hl') k) hr
theorem o_iconst (X : Stand p l e R s m args below meth c T locs cells slots) (K : OCx p s m meth c Z own nm bytes maxL ret) {i : Int} (v : Int32) (hd : decode bytes pc = .ok (.iconst i, 1)) (pc' : Nat) (hp : pc + 1 = pc') (hv : Int32.ofInt i = v) (hr : OGo p e below s n0 Q kc ks (T.setTop (mkF m pc' Ls (.int v :: St)))) : OGo p e below s n0 Q kc ks (T.setTop (mkF m pc Ls St)) := by
  subst hp
  exact OGo.st (fun _ k => XS.iconst X.here K.hx rfl (hb K.hby hd) (by rw [hv]; exact k)) hr
theorem o_bipush (X : Stand p l e R s m args below meth c T locs cells slots) (K : OCx p s m meth c Z own nm bytes maxL ret) {i : Int} (v : Int32) (hd : decode bytes pc = .ok (.bipush i, 2)) (pc' : Nat) (hp : pc + 2 = pc') (hv : (Int8.ofInt i).toInt32 = v) (hr : OGo p e below s n0 Q kc ks (T.setTop (mkF m pc' Ls (.int v :: St)))) : OGo p e below s n0 Q kc ks (T.setTop (mkF m pc Ls St)) := by
  subst hp
  exact OGo.st (fun _ k => XS.bipush X.here K.hx rfl (hb K.hby hd) (by rw [hv]; exact k)) hr
theorem o_sipush (X : Stand p l e R s m args below meth c T locs cells slots) (K : OCx p s m meth c Z own nm bytes maxL ret) {i : Int} (v : Int32) (hd : decode bytes pc = .ok (.sipush i, 3)) (pc' : Nat) (hp : pc + 3 = pc') (hv : (Int16.ofInt i).toInt32 = v) (hr : OGo p e below s n0 Q kc ks (T.setTop (mkF m pc' Ls (.int v :: St)))) : OGo p e below s n0 Q kc ks (T.setTop (mkF m pc Ls St)) := by
  subst hp
  exact OGo.st (fun _ k => XS.sipush X.here K.hx rfl (hb K.hby hd) (by rw [hv]; exact k)) hr
theorem o_lconst (X : Stand p l e R s m args below meth c T locs cells slots) (K : OCx p s m meth c Z own nm bytes maxL ret) {i : Fin 2} (v : Int64) (hd : decode bytes pc = .ok (.lconst i, 1)) (pc' : Nat) (hp : pc + 1 = pc') (hv : Int64.ofNat i = v) (hr : OGo p e below s n0 Q kc ks (T.setTop (mkF m pc' Ls (.long v :: St)))) : OGo p e below s n0 Q kc ks (T.setTop (mkF m pc Ls St)) := by
  subst hp
  exact OGo.st (fun _ k => XS.lconst X.here K.hx rfl (hb K.hby hd) (by rw [hv]; exact k)) hr
theorem o_aconst_null (X : Stand p l e R s m args below meth c T locs cells slots) (K : OCx p s m meth c Z own nm bytes maxL ret) (hd : decode bytes pc = .ok (.aconst_null, 1)) (pc' : Nat) (hp : pc + 1 = pc') (hr : OGo p e below s n0 Q kc ks (T.setTop (mkF m pc' Ls (.null :: St)))) : OGo p e below s n0 Q kc ks (T.setTop (mkF m pc Ls St)) := by
  subst hp
  exact OGo.st (fun _ k => XS.aconstNull X.here K.hx rfl (hb K.hby hd) k) hr
theorem o_ldcI (X : Stand p l e R s m args below meth c T locs cells slots) (K : OCx p s m meth c Z own nm bytes maxL ret) {index : Nat} {v : Int32} (hd : decode bytes pc = .ok (.ldc index, 2)) (pc' : Nat) (hp : pc + 2 = pc') (w : (Jvm.Cond.constant own index v).before a0 Z = true) (hr : OGo p e below s n0 Q kc ks (T.setTop (mkF m pc' Ls (.int v :: St)))) : OGo p e below s n0 Q kc ks (T.setTop (mkF m pc Ls St)) := by
  subst hp
  exact OGo.st (fun _ k => Stand.ldcI X K.hx K.hown (mvT K.hZ w) rfl (hb K.hby hd) k) hr
theorem o_ldcWI (X : Stand p l e R s m args below meth c T locs cells slots) (K : OCx p s m meth c Z own nm bytes maxL ret) {index : Nat} {v : Int32} (hd : decode bytes pc = .ok (.ldc_w index, 3)) (pc' : Nat) (hp : pc + 3 = pc') (w : (Jvm.Cond.constant own index v).before a0 Z = true) (hr : OGo p e below s n0 Q kc ks (T.setTop (mkF m pc' Ls (.int v :: St)))) : OGo p e below s n0 Q kc ks (T.setTop (mkF m pc Ls St)) := by
  subst hp
  exact OGo.st (fun _ k => Stand.ldcWI X K.hx K.hown (mvT K.hZ w) rfl (hb K.hby hd) k) hr
theorem o_ldc2J (X : Stand p l e R s m args below meth c T locs cells slots) (K : OCx p s m meth c Z own nm bytes maxL ret) {index : Nat} {v : Int64} (hd : decode bytes pc = .ok (.ldc2_w index, 3)) (pc' : Nat) (hp : pc + 3 = pc') (w : (Jvm.Cond.constantLong own index v).before a0 Z = true) (hr : OGo p e below s n0 Q kc ks (T.setTop (mkF m pc' Ls (.long v :: St)))) : OGo p e below s n0 Q kc ks (T.setTop (mkF m pc Ls St)) := by
  subst hp
  exact OGo.st (fun _ k => Stand.ldc2J X K.hx K.hown (mvT K.hZ w) rfl (hb K.hby hd) k) hr
theorem o_iadd (X : Stand p l e R s m args below meth c T locs cells slots) (K : OCx p s m meth c Z own nm bytes maxL ret) {x y : Int32} (hd : decode bytes pc = .ok (.iadd, 1)) (pc' : Nat) (hp : pc + 1 = pc') (hr : OGo p e below s n0 Q kc ks (T.setTop (mkF m pc' Ls (.int (x + y) :: St)))) : OGo p e below s n0 Q kc ks (T.setTop (mkF m pc Ls (.int y :: .int x :: St))) := by
  subst hp
  exact OGo.st (fun _ k => XS.iadd X.here K.hx rfl (hb K.hby hd) rfl k) hr
theorem o_isub (X : Stand p l e R s m args below meth c T locs cells slots) (K : OCx p s m meth c Z own nm bytes maxL ret) {x y : Int32} (hd : decode bytes pc = .ok (.isub, 1)) (pc' : Nat) (hp : pc + 1 = pc') (hr : OGo p e below s n0 Q kc ks (T.setTop (mkF m pc' Ls (.int (x - y) :: St)))) : OGo p e below s n0 Q kc ks (T.setTop (mkF m pc Ls (.int y :: .int x :: St))) := by
  subst hp
  exact OGo.st (fun _ k => XS.isub X.here K.hx rfl (hb K.hby hd) rfl k) hr
theorem o_imul (X : Stand p l e R s m args below meth c T locs cells slots) (K : OCx p s m meth c Z own nm bytes maxL ret) {x y : Int32} (hd : decode bytes pc = .ok (.imul, 1)) (pc' : Nat) (hp : pc + 1 = pc') (hr : OGo p e below s n0 Q kc ks (T.setTop (mkF m pc' Ls (.int (x * y) :: St)))) : OGo p e below s n0 Q kc ks (T.setTop (mkF m pc Ls (.int y :: .int x :: St))) := by
  subst hp
  exact OGo.st (fun _ k => XS.imul X.here K.hx rfl (hb K.hby hd) rfl k) hr
theorem o_iand (X : Stand p l e R s m args below meth c T locs cells slots) (K : OCx p s m meth c Z own nm bytes maxL ret) {x y : Int32} (hd : decode bytes pc = .ok (.iand, 1)) (pc' : Nat) (hp : pc + 1 = pc') (hr : OGo p e below s n0 Q kc ks (T.setTop (mkF m pc' Ls (.int (x &&& y) :: St)))) : OGo p e below s n0 Q kc ks (T.setTop (mkF m pc Ls (.int y :: .int x :: St))) := by
  subst hp
  exact OGo.st (fun _ k => XS.iand X.here K.hx rfl (hb K.hby hd) rfl k) hr
theorem o_ior (X : Stand p l e R s m args below meth c T locs cells slots) (K : OCx p s m meth c Z own nm bytes maxL ret) {x y : Int32} (hd : decode bytes pc = .ok (.ior, 1)) (pc' : Nat) (hp : pc + 1 = pc') (hr : OGo p e below s n0 Q kc ks (T.setTop (mkF m pc' Ls (.int (x ||| y) :: St)))) : OGo p e below s n0 Q kc ks (T.setTop (mkF m pc Ls (.int y :: .int x :: St))) := by
  subst hp
  exact OGo.st (fun _ k => XS.ior X.here K.hx rfl (hb K.hby hd) rfl k) hr
theorem o_ixor (X : Stand p l e R s m args below meth c T locs cells slots) (K : OCx p s m meth c Z own nm bytes maxL ret) {x y : Int32} (hd : decode bytes pc = .ok (.ixor, 1)) (pc' : Nat) (hp : pc + 1 = pc') (hr : OGo p e below s n0 Q kc ks (T.setTop (mkF m pc' Ls (.int (x ^^^ y) :: St)))) : OGo p e below s n0 Q kc ks (T.setTop (mkF m pc Ls (.int y :: .int x :: St))) := by
  subst hp
  exact OGo.st (fun _ k => XS.ixor X.here K.hx rfl (hb K.hby hd) rfl k) hr
theorem o_ishl (X : Stand p l e R s m args below meth c T locs cells slots) (K : OCx p s m meth c Z own nm bytes maxL ret) {x y : Int32} (hd : decode bytes pc = .ok (.ishl, 1)) (pc' : Nat) (hp : pc + 1 = pc') (hr : OGo p e below s n0 Q kc ks (T.setTop (mkF m pc' Ls (.int (x <<< (y &&& 31)) :: St)))) : OGo p e below s n0 Q kc ks (T.setTop (mkF m pc Ls (.int y :: .int x :: St))) := by
  subst hp
  exact OGo.st (fun _ k => XS.ishl X.here K.hx rfl (hb K.hby hd) rfl k) hr
theorem o_ishr (X : Stand p l e R s m args below meth c T locs cells slots) (K : OCx p s m meth c Z own nm bytes maxL ret) {x y : Int32} (hd : decode bytes pc = .ok (.ishr, 1)) (pc' : Nat) (hp : pc + 1 = pc') (hr : OGo p e below s n0 Q kc ks (T.setTop (mkF m pc' Ls (.int (x >>> (y &&& 31)) :: St)))) : OGo p e below s n0 Q kc ks (T.setTop (mkF m pc Ls (.int y :: .int x :: St))) := by
  subst hp
  exact OGo.st (fun _ k => XS.ishr X.here K.hx rfl (hb K.hby hd) rfl k) hr
theorem o_iushr (X : Stand p l e R s m args below meth c T locs cells slots) (K : OCx p s m meth c Z own nm bytes maxL ret) {x y : Int32} (hd : decode bytes pc = .ok (.iushr, 1)) (pc' : Nat) (hp : pc + 1 = pc') (hr : OGo p e below s n0 Q kc ks (T.setTop (mkF m pc' Ls (.int ((x.toUInt32 >>> (y &&& 31).toUInt32).toInt32) :: St)))) : OGo p e below s n0 Q kc ks (T.setTop (mkF m pc Ls (.int y :: .int x :: St))) := by
  subst hp
  exact OGo.st (fun _ k => XS.iushr X.here K.hx rfl (hb K.hby hd) rfl k) hr
theorem o_ladd (X : Stand p l e R s m args below meth c T locs cells slots) (K : OCx p s m meth c Z own nm bytes maxL ret) {x y : Int64} (hd : decode bytes pc = .ok (.ladd, 1)) (pc' : Nat) (hp : pc + 1 = pc') (hr : OGo p e below s n0 Q kc ks (T.setTop (mkF m pc' Ls (.long (x + y) :: St)))) : OGo p e below s n0 Q kc ks (T.setTop (mkF m pc Ls (.long y :: .long x :: St))) := by
  subst hp
  exact OGo.st (fun _ k => XS.ladd X.here K.hx rfl (hb K.hby hd) rfl k) hr
theorem o_lsub (X : Stand p l e R s m args below meth c T locs cells slots) (K : OCx p s m meth c Z own nm bytes maxL ret) {x y : Int64} (hd : decode bytes pc = .ok (.lsub, 1)) (pc' : Nat) (hp : pc + 1 = pc') (hr : OGo p e below s n0 Q kc ks (T.setTop (mkF m pc' Ls (.long (x - y) :: St)))) : OGo p e below s n0 Q kc ks (T.setTop (mkF m pc Ls (.long y :: .long x :: St))) := by
  subst hp
  exact OGo.st (fun _ k => XS.lsub X.here K.hx rfl (hb K.hby hd) rfl k) hr
theorem o_lmul (X : Stand p l e R s m args below meth c T locs cells slots) (K : OCx p s m meth c Z own nm bytes maxL ret) {x y : Int64} (hd : decode bytes pc = .ok (.lmul, 1)) (pc' : Nat) (hp : pc + 1 = pc') (hr : OGo p e below s n0 Q kc ks (T.setTop (mkF m pc' Ls (.long (x * y) :: St)))) : OGo p e below s n0 Q kc ks (T.setTop (mkF m pc Ls (.long y :: .long x :: St))) := by
  subst hp
  exact OGo.st (fun _ k => XS.lmul X.here K.hx rfl (hb K.hby hd) rfl k) hr
theorem o_land (X : Stand p l e R s m args below meth c T locs cells slots) (K : OCx p s m meth c Z own nm bytes maxL ret) {x y : Int64} (hd : decode bytes pc = .ok (.land, 1)) (pc' : Nat) (hp : pc + 1 = pc') (hr : OGo p e below s n0 Q kc ks (T.setTop (mkF m pc' Ls (.long (x &&& y) :: St)))) : OGo p e below s n0 Q kc ks (T.setTop (mkF m pc Ls (.long y :: .long x :: St))) := by
  subst hp
  exact OGo.st (fun _ k => XS.land X.here K.hx rfl (hb K.hby hd) rfl k) hr
theorem o_lor (X : Stand p l e R s m args below meth c T locs cells slots) (K : OCx p s m meth c Z own nm bytes maxL ret) {x y : Int64} (hd : decode bytes pc = .ok (.lor, 1)) (pc' : Nat) (hp : pc + 1 = pc') (hr : OGo p e below s n0 Q kc ks (T.setTop (mkF m pc' Ls (.long (x ||| y) :: St)))) : OGo p e below s n0 Q kc ks (T.setTop (mkF m pc Ls (.long y :: .long x :: St))) := by
  subst hp
  exact OGo.st (fun _ k => XS.lor X.here K.hx rfl (hb K.hby hd) rfl k) hr
theorem o_lxor (X : Stand p l e R s m args below meth c T locs cells slots) (K : OCx p s m meth c Z own nm bytes maxL ret) {x y : Int64} (hd : decode bytes pc = .ok (.lxor, 1)) (pc' : Nat) (hp : pc + 1 = pc') (hr : OGo p e below s n0 Q kc ks (T.setTop (mkF m pc' Ls (.long (x ^^^ y) :: St)))) : OGo p e below s n0 Q kc ks (T.setTop (mkF m pc Ls (.long y :: .long x :: St))) := by
  subst hp
  exact OGo.st (fun _ k => XS.lxor X.here K.hx rfl (hb K.hby hd) rfl k) hr
theorem o_lshl (X : Stand p l e R s m args below meth c T locs cells slots) (K : OCx p s m meth c Z own nm bytes maxL ret) {x : Int64} {y : Int32} (hd : decode bytes pc = .ok (.lshl, 1)) (pc' : Nat) (hp : pc + 1 = pc') (hr : OGo p e below s n0 Q kc ks (T.setTop (mkF m pc' Ls (.long (x <<< (y &&& 0x3f).toInt64) :: St)))) : OGo p e below s n0 Q kc ks (T.setTop (mkF m pc Ls (.int y :: .long x :: St))) := by
  subst hp
  exact OGo.st (fun _ k => XS.lshl X.here K.hx rfl (hb K.hby hd) rfl k) hr
theorem o_lshr (X : Stand p l e R s m args below meth c T locs cells slots) (K : OCx p s m meth c Z own nm bytes maxL ret) {x : Int64} {y : Int32} (hd : decode bytes pc = .ok (.lshr, 1)) (pc' : Nat) (hp : pc + 1 = pc') (hr : OGo p e below s n0 Q kc ks (T.setTop (mkF m pc' Ls (.long (x >>> (y &&& 0x3f).toInt64) :: St)))) : OGo p e below s n0 Q kc ks (T.setTop (mkF m pc Ls (.int y :: .long x :: St))) := by
  subst hp
  exact OGo.st (fun _ k => XS.lshr X.here K.hx rfl (hb K.hby hd) rfl k) hr
theorem o_lushr (X : Stand p l e R s m args below meth c T locs cells slots) (K : OCx p s m meth c Z own nm bytes maxL ret) {x : Int64} {y : Int32} (hd : decode bytes pc = .ok (.lushr, 1)) (pc' : Nat) (hp : pc + 1 = pc') (hr : OGo p e below s n0 Q kc ks (T.setTop (mkF m pc' Ls (.long ((x.toUInt64 >>> (y &&& 0x3f).toInt64.toUInt64).toInt64) :: St)))) : OGo p e below s n0 Q kc ks (T.setTop (mkF m pc Ls (.int y :: .long x :: St))) := by
  subst hp
  exact OGo.st (fun _ k => XS.lushr X.here K.hx rfl (hb K.hby hd) rfl k) hr
theorem o_ldiv (X : Stand p l e R s m args below meth c T locs cells slots) (K : OCx p s m meth c Z own nm bytes maxL ret) {x y : Int64} (hd : decode bytes pc = .ok (.ldiv, 1)) (pc' : Nat) (hp : pc + 1 = pc') (hy : y ≠ 0) (hr : OGo p e below s n0 Q kc ks (T.setTop (mkF m pc' Ls (.long (x / y) :: St)))) : OGo p e below s n0 Q kc ks (T.setTop (mkF m pc Ls (.long y :: .long x :: St))) := by
  subst hp
  exact OGo.st (fun _ k => XS.ldiv X.here K.hx rfl (hb K.hby hd) rfl hy k) hr
theorem o_idiv (X : Stand p l e R s m args below meth c T locs cells slots) (K : OCx p s m meth c Z own nm bytes maxL ret) {x y : Int32} (hd : decode bytes pc = .ok (.idiv, 1)) (pc' : Nat) (hp : pc + 1 = pc') (hy : y ≠ 0) (hr : OGo p e below s n0 Q kc ks (T.setTop (mkF m pc' Ls (.int (x / y) :: St)))) : OGo p e below s n0 Q kc ks (T.setTop (mkF m pc Ls (.int y :: .int x :: St))) := by
  subst hp
  exact OGo.st (fun _ k => XS.idiv X.here K.hx rfl (hb K.hby hd) rfl hy k) hr
theorem o_irem (X : Stand p l e R s m args below meth c T locs cells slots) (K : OCx p s m meth c Z own nm bytes maxL ret) {x y : Int32} (hd : decode bytes pc = .ok (.irem, 1)) (pc' : Nat) (hp : pc + 1 = pc') (hy : y ≠ 0) (hr : OGo p e below s n0 Q kc ks (T.setTop (mkF m pc' Ls (.int (x % y) :: St)))) : OGo p e below s n0 Q kc ks (T.setTop (mkF m pc Ls (.int y :: .int x :: St))) := by
  subst hp
  exact OGo.st (fun _ k => iremM X K.hx rfl (hb K.hby hd) rfl hy k) hr
theorem o_ineg (X : Stand p l e R s m args below meth c T locs cells slots) (K : OCx p s m meth c Z own nm bytes maxL ret) {x : Int32} (hd : decode bytes pc = .ok (.ineg, 1)) (pc' : Nat) (hp : pc + 1 = pc') (hr : OGo p e below s n0 Q kc ks (T.setTop (mkF m pc' Ls (.int (-x) :: St)))) : OGo p e below s n0 Q kc ks (T.setTop (mkF m pc Ls (.int x :: St))) := by
  subst hp
  exact OGo.st (fun _ k => XS.ineg X.here K.hx rfl (hb K.hby hd) rfl k) hr
theorem o_lneg (X : Stand p l e R s m args below meth c T locs cells slots) (K : OCx p s m meth c Z own nm bytes maxL ret) {x : Int64} (hd : decode bytes pc = .ok (.lneg, 1)) (pc' : Nat) (hp : pc + 1 = pc') (hr : OGo p e below s n0 Q kc ks (T.setTop (mkF m pc' Ls (.long (-x) :: St)))) : OGo p e below s n0 Q kc ks (T.setTop (mkF m pc Ls (.long x :: St))) := by
  subst hp
  exact OGo.st (fun _ k => XS.lneg X.here K.hx rfl (hb K.hby hd) rfl k) hr
theorem o_i2b (X : Stand p l e R s m args below meth c T locs cells slots) (K : OCx p s m meth c Z own nm bytes maxL ret) {x : Int32} (hd : decode bytes pc = .ok (.i2b, 1)) (pc' : Nat) (hp : pc + 1 = pc') (hr : OGo p e below s n0 Q kc ks (T.setTop (mkF m pc' Ls (.int (x.toInt8.toInt32) :: St)))) : OGo p e below s n0 Q kc ks (T.setTop (mkF m pc Ls (.int x :: St))) := by
  subst hp
  exact OGo.st (fun _ k => XS.i2b X.here K.hx rfl (hb K.hby hd) rfl k) hr
theorem o_i2c (X : Stand p l e R s m args below meth c T locs cells slots) (K : OCx p s m meth c Z own nm bytes maxL ret) {x : Int32} (hd : decode bytes pc = .ok (.i2c, 1)) (pc' : Nat) (hp : pc + 1 = pc') (hr : OGo p e below s n0 Q kc ks (T.setTop (mkF m pc' Ls (.int (x.toUInt32.toUInt16.toUInt32.toInt32) :: St)))) : OGo p e below s n0 Q kc ks (T.setTop (mkF m pc Ls (.int x :: St))) := by
  subst hp
  exact OGo.st (fun _ k => XS.i2c X.here K.hx rfl (hb K.hby hd) rfl k) hr
theorem o_i2s (X : Stand p l e R s m args below meth c T locs cells slots) (K : OCx p s m meth c Z own nm bytes maxL ret) {x : Int32} (hd : decode bytes pc = .ok (.i2s, 1)) (pc' : Nat) (hp : pc + 1 = pc') (hr : OGo p e below s n0 Q kc ks (T.setTop (mkF m pc' Ls (.int (x.toInt16.toInt32) :: St)))) : OGo p e below s n0 Q kc ks (T.setTop (mkF m pc Ls (.int x :: St))) := by
  subst hp
  exact OGo.st (fun _ k => XS.i2s X.here K.hx rfl (hb K.hby hd) rfl k) hr
theorem o_i2l (X : Stand p l e R s m args below meth c T locs cells slots) (K : OCx p s m meth c Z own nm bytes maxL ret) {x : Int32} (hd : decode bytes pc = .ok (.i2l, 1)) (pc' : Nat) (hp : pc + 1 = pc') (hr : OGo p e below s n0 Q kc ks (T.setTop (mkF m pc' Ls (.long (x.toInt64) :: St)))) : OGo p e below s n0 Q kc ks (T.setTop (mkF m pc Ls (.int x :: St))) := by
  subst hp
  exact OGo.st (fun _ k => XS.i2l X.here K.hx rfl (hb K.hby hd) rfl k) hr
theorem o_l2i (X : Stand p l e R s m args below meth c T locs cells slots) (K : OCx p s m meth c Z own nm bytes maxL ret) {x : Int64} (hd : decode bytes pc = .ok (.l2i, 1)) (pc' : Nat) (hp : pc + 1 = pc') (hr : OGo p e below s n0 Q kc ks (T.setTop (mkF m pc' Ls (.int (x.toInt32) :: St)))) : OGo p e below s n0 Q kc ks (T.setTop (mkF m pc Ls (.long x :: St))) := by
  subst hp
  exact OGo.st (fun _ k => XS.l2i X.here K.hx rfl (hb K.hby hd) rfl k) hr
theorem o_lcmp (X : Stand p l e R s m args below meth c T locs cells slots) (K : OCx p s m meth c Z own nm bytes maxL ret) {x y : Int64} (hd : decode bytes pc = .ok (.lcmp, 1)) (pc' : Nat) (hp : pc + 1 = pc') (hr : OGo p e below s n0 Q kc ks (T.setTop (mkF m pc' Ls (.int (lcmpW x y) :: St)))) : OGo p e below s n0 Q kc ks (T.setTop (mkF m pc Ls (.long y :: .long x :: St))) := by
  subst hp
  exact OGo.st (fun _ k => XS.lcmp X.here K.hx rfl (hb K.hby hd) rfl k) hr
theorem o_dup (X : Stand p l e R s m args below meth c T locs cells slots) (K : OCx p s m meth c Z own nm bytes maxL ret) {x : Value} (hd : decode bytes pc = .ok (.dup, 1)) (pc' : Nat) (hp : pc + 1 = pc') (hc : x.category = 1) (hr : OGo p e below s n0 Q kc ks (T.setTop (mkF m pc' Ls (x :: x :: St)))) : OGo p e below s n0 Q kc ks (T.setTop (mkF m pc Ls (x :: St))) := by
  subst hp
  exact OGo.st (fun _ k => XS.dup X.here K.hx rfl (hb K.hby hd) rfl hc k) hr
theorem o_pop (X : Stand p l e R s m args below meth c T locs cells slots) (K : OCx p s m meth c Z own nm bytes maxL ret) {x : Value} (hd : decode bytes pc = .ok (.pop, 1)) (pc' : Nat) (hp : pc + 1 = pc') (hc : x.category = 1) (hr : OGo p e below s n0 Q kc ks (T.setTop (mkF m pc' Ls St))) : OGo p e below s n0 Q kc ks (T.setTop (mkF m pc Ls (x :: St))) := by
  subst hp
  exact OGo.st (fun _ k => XS.pop X.here K.hx rfl (hb K.hby hd) rfl hc k) hr
theorem o_dupX1 (X : Stand p l e R s m args below meth c T locs cells slots) (K : OCx p s m meth c Z own nm bytes maxL ret) {x y : Value} (hd : decode bytes pc = .ok (.dup_x1, 1)) (pc' : Nat) (hp : pc + 1 = pc') (hc : x.category = 1) (hc' : y.category = 1) (hr : OGo p e below s n0 Q kc ks (T.setTop (mkF m pc' Ls (x :: y :: x :: St)))) : OGo p e below s n0 Q kc ks (T.setTop (mkF m pc Ls (x :: y :: St))) := by
  subst hp
  exact OGo.st (fun _ k => XS.dupX1 X.here K.hx rfl (hb K.hby hd) rfl hc hc' k) hr
theorem o_dup2 (X : Stand p l e R s m args below meth c T locs cells slots) (K : OCx p s m meth c Z own nm bytes maxL ret) {x y : Value} (hd : decode bytes pc = .ok (.dup2, 1)) (pc' : Nat) (hp : pc + 1 = pc') (hc : x.category = 1) (hc' : y.category = 1) (hr : OGo p e below s n0 Q kc ks (T.setTop (mkF m pc' Ls (x :: y :: x :: y :: St)))) : OGo p e below s n0 Q kc ks (T.setTop (mkF m pc Ls (x :: y :: St))) := by
  subst hp
  exact OGo.st (fun _ k => Jvm.Free.XT.dup2 X.here K.hx rfl (hb K.hby hd) rfl hc hc' k) hr
theorem o_dup2L (X : Stand p l e R s m args below meth c T locs cells slots) (K : OCx p s m meth c Z own nm bytes maxL ret) {x : Int64} (hd : decode bytes pc = .ok (.dup2, 1)) (pc' : Nat) (hp : pc + 1 = pc') (hr : OGo p e below s n0 Q kc ks (T.setTop (mkF m pc' Ls (.long x :: .long x :: St)))) : OGo p e below s n0 Q kc ks (T.setTop (mkF m pc Ls (.long x :: St))) := by
  subst hp
  exact OGo.st (fun _ k => Jvm.Free.XT.dup2L X.here K.hx rfl (hb K.hby hd) rfl k) hr
theorem o_goto (X : Stand p l e R s m args below meth c T locs cells slots) (K : OCx p s m meth c Z own nm bytes maxL ret) {o : Int} (hd : decode bytes pc = .ok (.goto o, 3)) (pc' : Nat) (ho : 0 ≤ (pc : Int) + o) (hp : ((pc : Int) + o).toNat = pc') (hr : OGo p e below s n0 Q kc ks (T.setTop (mkF m pc' Ls St))) : OGo p e below s n0 Q kc ks (T.setTop (mkF m pc Ls St)) :=
  OGo.st (fun _ k => XS.goto X.here K.hx rfl (pc0 := pc) rfl (hb K.hby hd) ho hp k) hr
theorem o_icmp_lt_t (X : Stand p l e R s m args below meth c T locs cells slots) (K : OCx p s m meth c Z own nm bytes maxL ret) {x y : Int32} {o : Int} (hd : decode bytes pc = .ok (.if_icmp .lt o, 3)) (pt : Nat) (ho : 0 ≤ (pc : Int) + o) (hp : ((pc : Int) + o).toNat = pt) (q : x.toInt < y.toInt) (hr : OGo p e below s n0 Q kc ks (T.setTop (mkF m pt Ls St))) : OGo p e below s n0 Q kc ks (T.setTop (mkF m pc Ls (.int y :: .int x :: St))) :=
  OGo.st (fun _ k => XS.icmpYes X.here K.hx rfl (pc0 := pc) rfl (hb K.hby hd) rfl ((tlt (Int32.lt_iff_toInt_lt.mpr q)).1) ho hp k) hr
theorem o_icmp_lt_f (X : Stand p l e R s m args below meth c T locs cells slots) (K : OCx p s m meth c Z own nm bytes maxL ret) {x y : Int32} {o : Int} (hd : decode bytes pc = .ok (.if_icmp .lt o, 3)) (pc' : Nat) (hp : pc + 3 = pc') (q : y.toInt ≤ x.toInt) (hr : OGo p e below s n0 Q kc ks (T.setTop (mkF m pc' Ls St))) : OGo p e below s n0 Q kc ks (T.setTop (mkF m pc Ls (.int y :: .int x :: St))) := by
  subst hp
  exact OGo.st (fun _ k => XS.icmpNo X.here K.hx rfl (hb K.hby hd) rfl ((flt (fun r => Int.not_lt.mpr q (Int32.lt_iff_toInt_lt.mp r))).1) k) hr
theorem o_icmp_lt (X : Stand p l e R s m args below meth c T locs cells slots) (K : OCx p s m meth c Z own nm bytes maxL ret) {x y : Int32} {o : Int} (hd : decode bytes pc = .ok (.if_icmp .lt o, 3)) (pt : Nat) (ho : 0 ≤ (pc : Int) + o) (hp : ((pc : Int) + o).toNat = pt) (pc' : Nat) (hp' : pc + 3 = pc') (h1 : x.toInt < y.toInt → OGo p e below s n0 Q kc ks (T.setTop (mkF m pt Ls St))) (h2 : y.toInt ≤ x.toInt → OGo p e below s n0 Q kc ks (T.setTop (mkF m pc' Ls St))) : OGo p e below s n0 Q kc ks (T.setTop (mkF m pc Ls (.int y :: .int x :: St))) :=
  (Classical.em (x.toInt < y.toInt)).elim (fun q => o_icmp_lt_t X K hd pt ho hp q (h1 q)) (fun q => o_icmp_lt_f X K hd pc' hp' (Int.not_lt.mp q) (h2 (Int.not_lt.mp q)))
theorem o_if_lt_t (X : Stand p l e R s m args below meth c T locs cells slots) (K : OCx p s m meth c Z own nm bytes maxL ret) {x : Int32} {o : Int} (hd : decode bytes pc = .ok (.ifCond .lt o, 3)) (pt : Nat) (ho : 0 ≤ (pc : Int) + o) (hp : ((pc : Int) + o).toNat = pt) (q : x.toInt < 0) (hr : OGo p e below s n0 Q kc ks (T.setTop (mkF m pt Ls St))) : OGo p e below s n0 Q kc ks (T.setTop (mkF m pc Ls (.int x :: St))) :=
  OGo.st (fun _ k => XS.ifYes X.here K.hx rfl (pc0 := pc) rfl (hb K.hby hd) rfl ((if0 _ _).trans (tlt (Int32.lt_iff_toInt_lt.mpr (show x.toInt < (0 : Int32).toInt from q))).1) ho hp k) hr
theorem o_if_lt_f (X : Stand p l e R s m args below meth c T locs cells slots) (K : OCx p s m meth c Z own nm bytes maxL ret) {x : Int32} {o : Int} (hd : decode bytes pc = .ok (.ifCond .lt o, 3)) (pc' : Nat) (hp : pc + 3 = pc') (q : 0 ≤ x.toInt) (hr : OGo p e below s n0 Q kc ks (T.setTop (mkF m pc' Ls St))) : OGo p e below s n0 Q kc ks (T.setTop (mkF m pc Ls (.int x :: St))) := by
  subst hp
  exact OGo.st (fun _ k => XS.ifNo X.here K.hx rfl (hb K.hby hd) rfl ((if0 _ _).trans (flt (fun r => Int.not_lt.mpr (show (0 : Int32).toInt ≤ x.toInt from q) (Int32.lt_iff_toInt_lt.mp r))).1) k) hr
theorem o_if_lt (X : Stand p l e R s m args below meth c T locs cells slots) (K : OCx p s m meth c Z own nm bytes maxL ret) {x : Int32} {o : Int} (hd : decode bytes pc = .ok (.ifCond .lt o, 3)) (pt : Nat) (ho : 0 ≤ (pc : Int) + o) (hp : ((pc : Int) + o).toNat = pt) (pc' : Nat) (hp' : pc + 3 = pc') (h1 : x.toInt < 0 → OGo p e below s n0 Q kc ks (T.setTop (mkF m pt Ls St))) (h2 : 0 ≤ x.toInt → OGo p e below s n0 Q kc ks (T.setTop (mkF m pc' Ls St))) : OGo p e below s n0 Q kc ks (T.setTop (mkF m pc Ls (.int x :: St))) :=
  (Classical.em (x.toInt < 0)).elim (fun q => o_if_lt_t X K hd pt ho hp q (h1 q)) (fun q => o_if_lt_f X K hd pc' hp' (Int.not_lt.mp q) (h2 (Int.not_lt.mp q)))
theorem o_icmp_ge_t (X : Stand p l e R s m args below meth c T locs cells slots) (K : OCx p s m meth c Z own nm bytes maxL ret) {x y : Int32} {o : Int} (hd : decode bytes pc = .ok (.if_icmp .ge o, 3)) (pt : Nat) (ho : 0 ≤ (pc : Int) + o) (hp : ((pc : Int) + o).toNat = pt) (q : y.toInt ≤ x.toInt) (hr : OGo p e below s n0 Q kc ks (T.setTop (mkF m pt Ls St))) : OGo p e below s n0 Q kc ks (T.setTop (mkF m pc Ls (.int y :: .int x :: St))) :=
  OGo.st (fun _ k => XS.icmpYes X.here K.hx rfl (pc0 := pc) rfl (hb K.hby hd) rfl ((flt (fun r => Int.not_lt.mpr q (Int32.lt_iff_toInt_lt.mp r))).2.1) ho hp k) hr
theorem o_icmp_ge_f (X : Stand p l e R s m args below meth c T locs cells slots) (K : OCx p s m meth c Z own nm bytes maxL ret) {x y : Int32} {o : Int} (hd : decode bytes pc = .ok (.if_icmp .ge o, 3)) (pc' : Nat) (hp : pc + 3 = pc') (q : x.toInt < y.toInt) (hr : OGo p e below s n0 Q kc ks (T.setTop (mkF m pc' Ls St))) : OGo p e below s n0 Q kc ks (T.setTop (mkF m pc Ls (.int y :: .int x :: St))) := by
  subst hp
  exact OGo.st (fun _ k => XS.icmpNo X.here K.hx rfl (hb K.hby hd) rfl ((tlt (Int32.lt_iff_toInt_lt.mpr q)).2.1) k) hr
theorem o_icmp_ge (X : Stand p l e R s m args below meth c T locs cells slots) (K : OCx p s m meth c Z own nm bytes maxL ret) {x y : Int32} {o : Int} (hd : decode bytes pc = .ok (.if_icmp .ge o, 3)) (pt : Nat) (ho : 0 ≤ (pc : Int) + o) (hp : ((pc : Int) + o).toNat = pt) (pc' : Nat) (hp' : pc + 3 = pc') (h1 : y.toInt ≤ x.toInt → OGo p e below s n0 Q kc ks (T.setTop (mkF m pt Ls St))) (h2 : x.toInt < y.toInt → OGo p e below s n0 Q kc ks (T.setTop (mkF m pc' Ls St))) : OGo p e below s n0 Q kc ks (T.setTop (mkF m pc Ls (.int y :: .int x :: St))) :=
  (Classical.em (y.toInt ≤ x.toInt)).elim (fun q => o_icmp_ge_t X K hd pt ho hp q (h1 q)) (fun q => o_icmp_ge_f X K hd pc' hp' (Int.not_le.mp q) (h2 (Int.not_le.mp q)))
theorem o_if_ge_t (X : Stand p l e R s m args below meth c T locs cells slots) (K : OCx p s m meth c Z own nm bytes maxL ret) {x : Int32} {o : Int} (hd : decode bytes pc = .ok (.ifCond .ge o, 3)) (pt : Nat) (ho : 0 ≤ (pc : Int) + o) (hp : ((pc : Int) + o).toNat = pt) (q : 0 ≤ x.toInt) (hr : OGo p e below s n0 Q kc ks (T.setTop (mkF m pt Ls St))) : OGo p e below s n0 Q kc ks (T.setTop (mkF m pc Ls (.int x :: St))) :=
  OGo.st (fun _ k => XS.ifYes X.here K.hx rfl (pc0 := pc) rfl (hb K.hby hd) rfl ((if0 _ _).trans (flt (fun r => Int.not_lt.mpr (show (0 : Int32).toInt ≤ x.toInt from q) (Int32.lt_iff_toInt_lt.mp r))).2.1) ho hp k) hr
theorem o_if_ge_f (X : Stand p l e R s m args below meth c T locs cells slots) (K : OCx p s m meth c Z own nm bytes maxL ret) {x : Int32} {o : Int} (hd : decode bytes pc = .ok (.ifCond .ge o, 3)) (pc' : Nat) (hp : pc + 3 = pc') (q : x.toInt < 0) (hr : OGo p e below s n0 Q kc ks (T.setTop (mkF m pc' Ls St))) : OGo p e below s n0 Q kc ks (T.setTop (mkF m pc Ls (.int x :: St))) := by
  subst hp
  exact OGo.st (fun _ k => XS.ifNo X.here K.hx rfl (hb K.hby hd) rfl ((if0 _ _).trans (tlt (Int32.lt_iff_toInt_lt.mpr (show x.toInt < (0 : Int32).toInt from q))).2.1) k) hr
theorem o_if_ge (X : Stand p l e R s m args below meth c T locs cells slots) (K : OCx p s m meth c Z own nm bytes maxL ret) {x : Int32} {o : Int} (hd : decode bytes pc = .ok (.ifCond .ge o, 3)) (pt : Nat) (ho : 0 ≤ (pc : Int) + o) (hp : ((pc : Int) + o).toNat = pt) (pc' : Nat) (hp' : pc + 3 = pc') (h1 : 0 ≤ x.toInt → OGo p e below s n0 Q kc ks (T.setTop (mkF m pt Ls St))) (h2 : x.toInt < 0 → OGo p e below s n0 Q kc ks (T.setTop (mkF m pc' Ls St))) : OGo p e below s n0 Q kc ks (T.setTop (mkF m pc Ls (.int x :: St))) :=
  (Classical.em (0 ≤ x.toInt)).elim (fun q => o_if_ge_t X K hd pt ho hp q (h1 q)) (fun q => o_if_ge_f X K hd pc' hp' (Int.not_le.mp q) (h2 (Int.not_le.mp q)))
theorem o_icmp_gt_t (X : Stand p l e R s m args below meth c T locs cells slots) (K : OCx p s m meth c Z own nm bytes maxL ret) {x y : Int32} {o : Int} (hd : decode bytes pc = .ok (.if_icmp .gt o, 3)) (pt : Nat) (ho : 0 ≤ (pc : Int) + o) (hp : ((pc : Int) + o).toNat = pt) (q : y.toInt < x.toInt) (hr : OGo p e below s n0 Q kc ks (T.setTop (mkF m pt Ls St))) : OGo p e below s n0 Q kc ks (T.setTop (mkF m pc Ls (.int y :: .int x :: St))) :=
  OGo.st (fun _ k => XS.icmpYes X.here K.hx rfl (pc0 := pc) rfl (hb K.hby hd) rfl ((tlt (Int32.lt_iff_toInt_lt.mpr q)).2.2.1) ho hp k) hr
theorem o_icmp_gt_f (X : Stand p l e R s m args below meth c T locs cells slots) (K : OCx p s m meth c Z own nm bytes maxL ret) {x y : Int32} {o : Int} (hd : decode bytes pc = .ok (.if_icmp .gt o, 3)) (pc' : Nat) (hp : pc + 3 = pc') (q : x.toInt ≤ y.toInt) (hr : OGo p e below s n0 Q kc ks (T.setTop (mkF m pc' Ls St))) : OGo p e below s n0 Q kc ks (T.setTop (mkF m pc Ls (.int y :: .int x :: St))) := by
  subst hp
  exact OGo.st (fun _ k => XS.icmpNo X.here K.hx rfl (hb K.hby hd) rfl ((flt (fun r => Int.not_lt.mpr q (Int32.lt_iff_toInt_lt.mp r))).2.2.1) k) hr
theorem o_icmp_gt (X : Stand p l e R s m args below meth c T locs cells slots) (K : OCx p s m meth c Z own nm bytes maxL ret) {x y : Int32} {o : Int} (hd : decode bytes pc = .ok (.if_icmp .gt o, 3)) (pt : Nat) (ho : 0 ≤ (pc : Int) + o) (hp : ((pc : Int) + o).toNat = pt) (pc' : Nat) (hp' : pc + 3 = pc') (h1 : y.toInt < x.toInt → OGo p e below s n0 Q kc ks (T.setTop (mkF m pt Ls St))) (h2 : x.toInt ≤ y.toInt → OGo p e below s n0 Q kc ks (T.setTop (mkF m pc' Ls St))) : OGo p e below s n0 Q kc ks (T.setTop (mkF m pc Ls (.int y :: .int x :: St))) :=
  (Classical.em (y.toInt < x.toInt)).elim (fun q => o_icmp_gt_t X K hd pt ho hp q (h1 q)) (fun q => o_icmp_gt_f X K hd pc' hp' (Int.not_lt.mp q) (h2 (Int.not_lt.mp q)))
theorem o_if_gt_t (X : Stand p l e R s m args below meth c T locs cells slots) (K : OCx p s m meth c Z own nm bytes maxL ret) {x : Int32} {o : Int} (hd : decode bytes pc = .ok (.ifCond .gt o, 3)) (pt : Nat) (ho : 0 ≤ (pc : Int) + o) (hp : ((pc : Int) + o).toNat = pt) (q : 0 < x.toInt) (hr : OGo p e below s n0 Q kc ks (T.setTop (mkF m pt Ls St))) : OGo p e below s n0 Q kc ks (T.setTop (mkF m pc Ls (.int x :: St))) :=
  OGo.st (fun _ k => XS.ifYes X.here K.hx rfl (pc0 := pc) rfl (hb K.hby hd) rfl ((if0 _ _).trans (tlt (Int32.lt_iff_toInt_lt.mpr (show (0 : Int32).toInt < x.toInt from q))).2.2.1) ho hp k) hr
theorem o_if_gt_f (X : Stand p l e R s m args below meth c T locs cells slots) (K : OCx p s m meth c Z own nm bytes maxL ret) {x : Int32} {o : Int} (hd : decode bytes pc = .ok (.ifCond .gt o, 3)) (pc' : Nat) (hp : pc + 3 = pc') (q : x.toInt ≤ 0) (hr : OGo p e below s n0 Q kc ks (T.setTop (mkF m pc' Ls St))) : OGo p e below s n0 Q kc ks (T.setTop (mkF m pc Ls (.int x :: St))) := by
  subst hp
  exact OGo.st (fun _ k => XS.ifNo X.here K.hx rfl (hb K.hby hd) rfl ((if0 _ _).trans (flt (fun r => Int.not_lt.mpr (show x.toInt ≤ (0 : Int32).toInt from q) (Int32.lt_iff_toInt_lt.mp r))).2.2.1) k) hr
theorem o_if_gt (X : Stand p l e R s m args below meth c T locs cells slots) (K : OCx p s m meth c Z own nm bytes maxL ret) {x : Int32} {o : Int} (hd : decode bytes pc = .ok (.ifCond .gt o, 3)) (pt : Nat) (ho : 0 ≤ (pc : Int) + o) (hp : ((pc : Int) + o).toNat = pt) (pc' : Nat) (hp' : pc + 3 = pc') (h1 : 0 < x.toInt → OGo p e below s n0 Q kc ks (T.setTop (mkF m pt Ls St))) (h2 : x.toInt ≤ 0 → OGo p e below s n0 Q kc ks (T.setTop (mkF m pc' Ls St))) : OGo p e below s n0 Q kc ks (T.setTop (mkF m pc Ls (.int x :: St))) :=
  (Classical.em (0 < x.toInt)).elim (fun q => o_if_gt_t X K hd pt ho hp q (h1 q)) (fun q => o_if_gt_f X K hd pc' hp' (Int.not_lt.mp q) (h2 (Int.not_lt.mp q)))
theorem o_icmp_le_t (X : Stand p l e R s m args below meth c T locs cells slots) (K : OCx p s m meth c Z own nm bytes maxL ret) {x y : Int32} {o : Int} (hd : decode bytes pc = .ok (.if_icmp .le o, 3)) (pt : Nat) (ho : 0 ≤ (pc : Int) + o) (hp : ((pc : Int) + o).toNat = pt) (q : x.toInt ≤ y.toInt) (hr : OGo p e below s n0 Q kc ks (T.setTop (mkF m pt Ls St))) : OGo p e below s n0 Q kc ks (T.setTop (mkF m pc Ls (.int y :: .int x :: St))) :=
  OGo.st (fun _ k => XS.icmpYes X.here K.hx rfl (pc0 := pc) rfl (hb K.hby hd) rfl ((flt (fun r => Int.not_lt.mpr q (Int32.lt_iff_toInt_lt.mp r))).2.2.2) ho hp k) hr
theorem o_icmp_le_f (X : Stand p l e R s m args below meth c T locs cells slots) (K : OCx p s m meth c Z own nm bytes maxL ret) {x y : Int32} {o : Int} (hd : decode bytes pc = .ok (.if_icmp .le o, 3)) (pc' : Nat) (hp : pc + 3 = pc') (q : y.toInt < x.toInt) (hr : OGo p e below s n0 Q kc ks (T.setTop (mkF m pc' Ls St))) : OGo p e below s n0 Q kc ks (T.setTop (mkF m pc Ls (.int y :: .int x :: St))) := by
  subst hp
  exact OGo.st (fun _ k => XS.icmpNo X.here K.hx rfl (hb K.hby hd) rfl ((tlt (Int32.lt_iff_toInt_lt.mpr q)).2.2.2) k) hr
theorem o_icmp_le (X : Stand p l e R s m args below meth c T locs cells slots) (K : OCx p s m meth c Z own nm bytes maxL ret) {x y : Int32} {o : Int} (hd : decode bytes pc = .ok (.if_icmp .le o, 3)) (pt : Nat) (ho : 0 ≤ (pc : Int) + o) (hp : ((pc : Int) + o).toNat = pt) (pc' : Nat) (hp' : pc + 3 = pc') (h1 : x.toInt ≤ y.toInt → OGo p e below s n0 Q kc ks (T.setTop (mkF m pt Ls St))) (h2 : y.toInt < x.toInt → OGo p e below s n0 Q kc ks (T.setTop (mkF m pc' Ls St))) : OGo p e below s n0 Q kc ks (T.setTop (mkF m pc Ls (.int y :: .int x :: St))) :=
  (Classical.em (x.toInt ≤ y.toInt)).elim (fun q => o_icmp_le_t X K hd pt ho hp q (h1 q)) (fun q => o_icmp_le_f X K hd pc' hp' (Int.not_le.mp q) (h2 (Int.not_le.mp q)))
theorem o_if_le_t (X : Stand p l e R s m args below meth c T locs cells slots) (K : OCx p s m meth c Z own nm bytes maxL ret) {x : Int32} {o : Int} (hd : decode bytes pc = .ok (.ifCond .le o, 3)) (pt : Nat) (ho : 0 ≤ (pc : Int) + o) (hp : ((pc : Int) + o).toNat = pt) (q : x.toInt ≤ 0) (hr : OGo p e below s n0 Q kc ks (T.setTop (mkF m pt Ls St))) : OGo p e below s n0 Q kc ks (T.setTop (mkF m pc Ls (.int x :: St))) :=
  OGo.st (fun _ k => XS.ifYes X.here K.hx rfl (pc0 := pc) rfl (hb K.hby hd) rfl ((if0 _ _).trans (flt (fun r => Int.not_lt.mpr (show x.toInt ≤ (0 : Int32).toInt from q) (Int32.lt_iff_toInt_lt.mp r))).2.2.2) ho hp k) hr
theorem o_if_le_f (X : Stand p l e R s m args below meth c T locs cells slots) (K : OCx p s m meth c Z own nm bytes maxL ret) {x : Int32} {o : Int} (hd : decode bytes pc = .ok (.ifCond .le o, 3)) (pc' : Nat) (hp : pc + 3 = pc') (q : 0 < x.toInt) (hr : OGo p e below s n0 Q kc ks (T.setTop (mkF m pc' Ls St))) : OGo p e below s n0 Q kc ks (T.setTop (mkF m pc Ls (.int x :: St))) := by
  subst hp
  exact OGo.st (fun _ k => XS.ifNo X.here K.hx rfl (hb K.hby hd) rfl ((if0 _ _).trans (tlt (Int32.lt_iff_toInt_lt.mpr (show (0 : Int32).toInt < x.toInt from q))).2.2.2) k) hr
theorem o_if_le (X : Stand p l e R s m args below meth c T locs cells slots) (K : OCx p s m meth c Z own nm bytes maxL ret) {x : Int32} {o : Int} (hd : decode bytes pc = .ok (.ifCond .le o, 3)) (pt : Nat) (ho : 0 ≤ (pc : Int) + o) (hp : ((pc : Int) + o).toNat = pt) (pc' : Nat) (hp' : pc + 3 = pc') (h1 : x.toInt ≤ 0 → OGo p e below s n0 Q kc ks (T.setTop (mkF m pt Ls St))) (h2 : 0 < x.toInt → OGo p e below s n0 Q kc ks (T.setTop (mkF m pc' Ls St))) : OGo p e below s n0 Q kc ks (T.setTop (mkF m pc Ls (.int x :: St))) :=
  (Classical.em (x.toInt ≤ 0)).elim (fun q => o_if_le_t X K hd pt ho hp q (h1 q)) (fun q => o_if_le_f X K hd pc' hp' (Int.not_le.mp q) (h2 (Int.not_le.mp q)))
theorem o_icmp_eq_t (X : Stand p l e R s m args below meth c T locs cells slots) (K : OCx p s m meth c Z own nm bytes maxL ret) {x y : Int32} {o : Int} (hd : decode bytes pc = .ok (.if_icmp .eq o, 3)) (pt : Nat) (ho : 0 ≤ (pc : Int) + o) (hp : ((pc : Int) + o).toNat = pt) (q : x = y) (hr : OGo p e below s n0 Q kc ks (T.setTop (mkF m pt Ls St))) : OGo p e below s n0 Q kc ks (T.setTop (mkF m pc Ls (.int y :: .int x :: St))) :=
  OGo.st (fun _ k => XS.icmpYes X.here K.hx rfl (pc0 := pc) rfl (hb K.hby hd) rfl ((teq q).1) ho hp k) hr
theorem o_icmp_eq_f (X : Stand p l e R s m args below meth c T locs cells slots) (K : OCx p s m meth c Z own nm bytes maxL ret) {x y : Int32} {o : Int} (hd : decode bytes pc = .ok (.if_icmp .eq o, 3)) (pc' : Nat) (hp : pc + 3 = pc') (q : ¬ x = y) (hr : OGo p e below s n0 Q kc ks (T.setTop (mkF m pc' Ls St))) : OGo p e below s n0 Q kc ks (T.setTop (mkF m pc Ls (.int y :: .int x :: St))) := by
  subst hp
  exact OGo.st (fun _ k => XS.icmpNo X.here K.hx rfl (hb K.hby hd) rfl ((feq q).1) k) hr
theorem o_icmp_eq (X : Stand p l e R s m args below meth c T locs cells slots) (K : OCx p s m meth c Z own nm bytes maxL ret) {x y : Int32} {o : Int} (hd : decode bytes pc = .ok (.if_icmp .eq o, 3)) (pt : Nat) (ho : 0 ≤ (pc : Int) + o) (hp : ((pc : Int) + o).toNat = pt) (pc' : Nat) (hp' : pc + 3 = pc') (h1 : x = y → OGo p e below s n0 Q kc ks (T.setTop (mkF m pt Ls St))) (h2 : ¬ x = y → OGo p e below s n0 Q kc ks (T.setTop (mkF m pc' Ls St))) : OGo p e below s n0 Q kc ks (T.setTop (mkF m pc Ls (.int y :: .int x :: St))) :=
  (Classical.em (x = y)).elim (fun q => o_icmp_eq_t X K hd pt ho hp q (h1 q)) (fun q => o_icmp_eq_f X K hd pc' hp' (id q) (h2 (id q)))
theorem o_if_eq_t (X : Stand p l e R s m args below meth c T locs cells slots) (K : OCx p s m meth c Z own nm bytes maxL ret) {x : Int32} {o : Int} (hd : decode bytes pc = .ok (.ifCond .eq o, 3)) (pt : Nat) (ho : 0 ≤ (pc : Int) + o) (hp : ((pc : Int) + o).toNat = pt) (q : x = 0) (hr : OGo p e below s n0 Q kc ks (T.setTop (mkF m pt Ls St))) : OGo p e below s n0 Q kc ks (T.setTop (mkF m pc Ls (.int x :: St))) :=
  OGo.st (fun _ k => XS.ifYes X.here K.hx rfl (pc0 := pc) rfl (hb K.hby hd) rfl ((if0 _ _).trans (teq (show x = (0 : Int32) from q)).1) ho hp k) hr
theorem o_if_eq_f (X : Stand p l e R s m args below meth c T locs cells slots) (K : OCx p s m meth c Z own nm bytes maxL ret) {x : Int32} {o : Int} (hd : decode bytes pc = .ok (.ifCond .eq o, 3)) (pc' : Nat) (hp : pc + 3 = pc') (q : ¬ x = 0) (hr : OGo p e below s n0 Q kc ks (T.setTop (mkF m pc' Ls St))) : OGo p e below s n0 Q kc ks (T.setTop (mkF m pc Ls (.int x :: St))) := by
  subst hp
  exact OGo.st (fun _ k => XS.ifNo X.here K.hx rfl (hb K.hby hd) rfl ((if0 _ _).trans (feq (show ¬ x = (0 : Int32) from q)).1) k) hr
theorem o_if_eq (X : Stand p l e R s m args below meth c T locs cells slots) (K : OCx p s m meth c Z own nm bytes maxL ret) {x : Int32} {o : Int} (hd : decode bytes pc = .ok (.ifCond .eq o, 3)) (pt : Nat) (ho : 0 ≤ (pc : Int) + o) (hp : ((pc : Int) + o).toNat = pt) (pc' : Nat) (hp' : pc + 3 = pc') (h1 : x = 0 → OGo p e below s n0 Q kc ks (T.setTop (mkF m pt Ls St))) (h2 : ¬ x = 0 → OGo p e below s n0 Q kc ks (T.setTop (mkF m pc' Ls St))) : OGo p e below s n0 Q kc ks (T.setTop (mkF m pc Ls (.int x :: St))) :=
  (Classical.em (x = 0)).elim (fun q => o_if_eq_t X K hd pt ho hp q (h1 q)) (fun q => o_if_eq_f X K hd pc' hp' (id q) (h2 (id q)))
theorem o_icmp_ne_t (X : Stand p l e R s m args below meth c T locs cells slots) (K : OCx p s m meth c Z own nm bytes maxL ret) {x y : Int32} {o : Int} (hd : decode bytes pc = .ok (.if_icmp .ne o, 3)) (pt : Nat) (ho : 0 ≤ (pc : Int) + o) (hp : ((pc : Int) + o).toNat = pt) (q : ¬ x = y) (hr : OGo p e below s n0 Q kc ks (T.setTop (mkF m pt Ls St))) : OGo p e below s n0 Q kc ks (T.setTop (mkF m pc Ls (.int y :: .int x :: St))) :=
  OGo.st (fun _ k => XS.icmpYes X.here K.hx rfl (pc0 := pc) rfl (hb K.hby hd) rfl ((feq q).2) ho hp k) hr
theorem o_icmp_ne_f (X : Stand p l e R s m args below meth c T locs cells slots) (K : OCx p s m meth c Z own nm bytes maxL ret) {x y : Int32} {o : Int} (hd : decode bytes pc = .ok (.if_icmp .ne o, 3)) (pc' : Nat) (hp : pc + 3 = pc') (q : x = y) (hr : OGo p e below s n0 Q kc ks (T.setTop (mkF m pc' Ls St))) : OGo p e below s n0 Q kc ks (T.setTop (mkF m pc Ls (.int y :: .int x :: St))) := by
  subst hp
  exact OGo.st (fun _ k => XS.icmpNo X.here K.hx rfl (hb K.hby hd) rfl ((teq q).2) k) hr
theorem o_icmp_ne (X : Stand p l e R s m args below meth c T locs cells slots) (K : OCx p s m meth c Z own nm bytes maxL ret) {x y : Int32} {o : Int} (hd : decode bytes pc = .ok (.if_icmp .ne o, 3)) (pt : Nat) (ho : 0 ≤ (pc : Int) + o) (hp : ((pc : Int) + o).toNat = pt) (pc' : Nat) (hp' : pc + 3 = pc') (h1 : ¬ x = y → OGo p e below s n0 Q kc ks (T.setTop (mkF m pt Ls St))) (h2 : x = y → OGo p e below s n0 Q kc ks (T.setTop (mkF m pc' Ls St))) : OGo p e below s n0 Q kc ks (T.setTop (mkF m pc Ls (.int y :: .int x :: St))) :=
  (Classical.em (¬ x = y)).elim (fun q => o_icmp_ne_t X K hd pt ho hp q (h1 q)) (fun q => o_icmp_ne_f X K hd pc' hp' (Classical.not_not.mp q) (h2 (Classical.not_not.mp q)))
theorem o_if_ne_t (X : Stand p l e R s m args below meth c T locs cells slots) (K : OCx p s m meth c Z own nm bytes maxL ret) {x : Int32} {o : Int} (hd : decode bytes pc = .ok (.ifCond .ne o, 3)) (pt : Nat) (ho : 0 ≤ (pc : Int) + o) (hp : ((pc : Int) + o).toNat = pt) (q : ¬ x = 0) (hr : OGo p e below s n0 Q kc ks (T.setTop (mkF m pt Ls St))) : OGo p e below s n0 Q kc ks (T.setTop (mkF m pc Ls (.int x :: St))) :=
  OGo.st (fun _ k => XS.ifYes X.here K.hx rfl (pc0 := pc) rfl (hb K.hby hd) rfl ((if0 _ _).trans (feq (show ¬ x = (0 : Int32) from q)).2) ho hp k) hr
theorem o_if_ne_f (X : Stand p l e R s m args below meth c T locs cells slots) (K : OCx p s m meth c Z own nm bytes maxL ret) {x : Int32} {o : Int} (hd : decode bytes pc = .ok (.ifCond .ne o, 3)) (pc' : Nat) (hp : pc + 3 = pc') (q : x = 0) (hr : OGo p e below s n0 Q kc ks (T.setTop (mkF m pc' Ls St))) : OGo p e below s n0 Q kc ks (T.setTop (mkF m pc Ls (.int x :: St))) := by
  subst hp
  exact OGo.st (fun _ k => XS.ifNo X.here K.hx rfl (hb K.hby hd) rfl ((if0 _ _).trans (teq (show x = (0 : Int32) from q)).2) k) hr
theorem o_if_ne (X : Stand p l e R s m args below meth c T locs cells slots) (K : OCx p s m meth c Z own nm bytes maxL ret) {x : Int32} {o : Int} (hd : decode bytes pc = .ok (.ifCond .ne o, 3)) (pt : Nat) (ho : 0 ≤ (pc : Int) + o) (hp : ((pc : Int) + o).toNat = pt) (pc' : Nat) (hp' : pc + 3 = pc') (h1 : ¬ x = 0 → OGo p e below s n0 Q kc ks (T.setTop (mkF m pt Ls St))) (h2 : x = 0 → OGo p e below s n0 Q kc ks (T.setTop (mkF m pc' Ls St))) : OGo p e below s n0 Q kc ks (T.setTop (mkF m pc Ls (.int x :: St))) :=
  (Classical.em (¬ x = 0)).elim (fun q => o_if_ne_t X K hd pt ho hp q (h1 q)) (fun q => o_if_ne_f X K hd pc' hp' (Classical.not_not.mp q) (h2 (Classical.not_not.mp q)))
theorem o_lw_lt {x y : Int64} : (lcmpW x y).toInt < 0 ↔ x.toInt < y.toInt := by
  have q := lw_lt x y
  rw [Int32.lt_iff_toInt_lt, Int64.lt_iff_toInt_lt] at q
  exact q
theorem o_lw_gt {x y : Int64} : 0 < (lcmpW x y).toInt ↔ y.toInt < x.toInt := by
  have q := lw_gt x y
  rw [Int32.lt_iff_toInt_lt, Int64.lt_iff_toInt_lt] at q
  exact q
theorem o_lw_le {x y : Int64} : (lcmpW x y).toInt ≤ 0 ↔ x.toInt ≤ y.toInt := by
  have q := @o_lw_gt x y
  omega
theorem o_lw_ge {x y : Int64} : 0 ≤ (lcmpW x y).toInt ↔ y.toInt ≤ x.toInt := by
  have q := @o_lw_lt x y
  omega
theorem o_lw_eq {x y : Int64} : lcmpW x y = 0 ↔ x = y := lw_eq x y
theorem o_ifnull_t (X : Stand p l e R s m args below meth c T locs cells slots) (K : OCx p s m meth c Z own nm bytes maxL ret) {o : Int} (hd : decode bytes pc = .ok (.ifnull o, 3)) (pt : Nat) (ho : 0 ≤ (pc : Int) + o) (hp : ((pc : Int) + o).toNat = pt) (hr : OGo p e below s n0 Q kc ks (T.setTop (mkF m pt Ls St))) : OGo p e below s n0 Q kc ks (T.setTop (mkF m pc Ls (.null :: St))) :=
  OGo.st (fun _ k => XS.ifnullYes X.here K.hx rfl (pc0 := pc) rfl (hb K.hby hd) rfl ho hp k) hr
theorem o_ifnull_f (X : Stand p l e R s m args below meth c T locs cells slots) (K : OCx p s m meth c Z own nm bytes maxL ret) {o : Int} {b : Addr} (hd : decode bytes pc = .ok (.ifnull o, 3)) (pc' : Nat) (hp : pc + 3 = pc') (hr : OGo p e below s n0 Q kc ks (T.setTop (mkF m pc' Ls St))) : OGo p e below s n0 Q kc ks (T.setTop (mkF m pc Ls (.ref b :: St))) := by
  subst hp
  exact OGo.st (fun _ k => XS.ifnullNo X.here K.hx rfl (hb K.hby hd) rfl k) hr
theorem o_ifnonnull_t (X : Stand p l e R s m args below meth c T locs cells slots) (K : OCx p s m meth c Z own nm bytes maxL ret) {o : Int} {b : Addr} (hd : decode bytes pc = .ok (.ifnonnull o, 3)) (pt : Nat) (ho : 0 ≤ (pc : Int) + o) (hp : ((pc : Int) + o).toNat = pt) (hr : OGo p e below s n0 Q kc ks (T.setTop (mkF m pt Ls St))) : OGo p e below s n0 Q kc ks (T.setTop (mkF m pc Ls (.ref b :: St))) :=
  OGo.st (fun _ k => XS.ifnonnullYes X.here K.hx rfl (pc0 := pc) rfl (hb K.hby hd) rfl ho hp k) hr
theorem o_ifnonnull_f (X : Stand p l e R s m args below meth c T locs cells slots) (K : OCx p s m meth c Z own nm bytes maxL ret) {o : Int} (hd : decode bytes pc = .ok (.ifnonnull o, 3)) (pc' : Nat) (hp : pc + 3 = pc') (hr : OGo p e below s n0 Q kc ks (T.setTop (mkF m pc' Ls St))) : OGo p e below s n0 Q kc ks (T.setTop (mkF m pc Ls (.null :: St))) := by
  subst hp
  exact OGo.st (fun _ k => XS.ifnonnullNo X.here K.hx rfl (hb K.hby hd) rfl k) hr
theorem o_acmp (X : Stand p l e R s m args below meth c T locs cells slots) (K : OCx p s m meth c Z own nm bytes maxL ret) {cd : ACond} {x y : Value} {o : Int} (hd : decode bytes pc = .ok (.if_acmp cd o, 3)) (pc' : Nat) (h1 : x.isRef = true) (h2 : y.isRef = true) (same : Bool) (hq : decide (x = y) = same) (ho : 0 ≤ (pc : Int) + o) (hp : pc' = if acV cd same = true then ((pc : Int) + o).toNat else pc + 3) (hr : OGo p e below s n0 Q kc ks (T.setTop (mkF m pc' Ls St))) : OGo p e below s n0 Q kc ks (T.setTop (mkF m pc Ls (y :: x :: St))) :=
  OGo.st (fun _ k => Jvm.RoadKit.acmp (g := mkF m pc Ls (y :: x :: St)) X K.hx rfl h1 h2 (pc0 := pc) rfl (hb K.hby hd) rfl hq ho hp k) hr
theorem o_leave (X : Stand p l e R s m args below meth c T locs cells slots) (hlk : meth.locks = false) {v : Option Value} (hv : meth.sig.returnType = none → v = none) {S : State} (hc : cells ≤ kc) (hs : slots ≤ ks) (N : Fr n0 locs) (hQ : Q v T.heap)
    (k : ∀ fs, (∀ (f : JFrame) (acts : List Action), f.method = m → f.locked = none → f.entered = [] → (doReturn e (T.setTop f) acts v).1 = T.setFrames fs) → Steps p.tables e below S (T.setFrames fs)) : OGo p e below s n0 Q kc ks S := by
  obtain ⟨fs, hr, hrun, hended, hW, hsame⟩ := X.leave (v := v) hv
  exact ⟨_, _, k fs hr, hrun, hended, v, locs, rfl, ⟨hQ, N⟩, ⟨v, rfl⟩, hW, hsame.mono hc hs⟩
theorem o_ireturn (X : Stand p l e R s m args below meth c T locs cells slots) (K : OCx p s m meth c Z own nm bytes maxL (some .int)) {z : Int32} (hd : decode bytes pc = .ok (.ireturn, 1)) (hc : cells ≤ kc) (hs : slots ≤ ks) (N : Fr n0 locs) (hQ : Q (some (.int z)) T.heap) : OGo p e below s n0 Q kc ks (T.setTop (mkF m pc Ls (.int z :: St))) :=
  o_leave X K.hlk (fun h => by rw [K.hret] at h; cases h) hc hs N hQ (fun fs hr => retI X K.hx K.hret (hb K.hby hd) hr)
theorem o_ireturnN {t : FieldType} (X : Stand p l e R s m args below meth c T locs cells slots) (K : OCx p s m meth c Z own nm bytes maxL (some t)) (ht : t = .boolean ∨ t = .byte ∨ t = .char ∨ t = .short) {z : Int32} (hd : decode bytes pc = .ok (.ireturn, 1)) (hc : cells ≤ kc) (hs : slots ≤ ks) (N : Fr n0 locs) (hQ : Q (some (.int (nar t z))) T.heap) : OGo p e below s n0 Q kc ks (T.setTop (mkF m pc Ls (.int z :: St))) :=
  o_leave X K.hlk (fun h => by rw [K.hret] at h; cases h) hc hs N hQ (fun fs hr => retN X K.hx K.hret ht (hb K.hby hd) hr)
theorem o_lreturn (X : Stand p l e R s m args below meth c T locs cells slots) (K : OCx p s m meth c Z own nm bytes maxL (some .long)) {z : Int64} (hd : decode bytes pc = .ok (.lreturn, 1)) (hc : cells ≤ kc) (hs : slots ≤ ks) (N : Fr n0 locs) (hQ : Q (some (.long z)) T.heap) : OGo p e below s n0 Q kc ks (T.setTop (mkF m pc Ls (.long z :: St))) :=
  o_leave X K.hlk (fun h => by rw [K.hret] at h; cases h) hc hs N hQ (fun fs hr => retOut X K.hx K.hret rfl (Or.inr (Or.inl ⟨rfl, rfl, z, rfl⟩)) (hb K.hby hd) hr)
theorem o_areturn {t : FieldType} (X : Stand p l e R s m args below meth c T locs cells slots) (K : OCx p s m meth c Z own nm bytes maxL (some t)) (ht : t.isReference = true) {z : Value} (hn : narrow t z = z) (hz : z.isRef = true) (hd : decode bytes pc = .ok (.areturn, 1)) (hc : cells ≤ kc) (hs : slots ≤ ks) (N : Fr n0 locs) (hQ : Q (some z) T.heap) : OGo p e below s n0 Q kc ks (T.setTop (mkF m pc Ls (z :: St))) :=
  o_leave X K.hlk (fun h => by rw [K.hret] at h; cases h) hc hs N hQ (fun fs hr => retOut X K.hx K.hret hn (Or.inr (Or.inr (Or.inr (Or.inr ⟨rfl, ht, hz⟩)))) (hb K.hby hd) hr)
theorem o_return (X : Stand p l e R s m args below meth c T locs cells slots) (K : OCx p s m meth c Z own nm bytes maxL none) (hd : decode bytes pc = .ok (.return_, 1)) (hc : cells ≤ kc) (hs : slots ≤ ks) (N : Fr n0 locs) (hQ : Q none T.heap) : OGo p e below s n0 Q kc ks (T.setTop (mkF m pc Ls [])) :=
  o_leave X K.hlk (fun _ => rfl) hc hs N hQ (fun fs hr => X.returnOut K.hx K.hret (hb K.hby hd) hr)
/-- an array: its kind, its length, what each place holds -/
def OAr (Z : State) (h : Heap) (a : Addr) (ty : FieldType) (n : Nat) (f : Nat → Value) : Prop := ∃ c : Cell, Arr Z h a c ty ∧ c.slots.size = n ∧ n < 2147483648 ∧ (∀ j, j < n → c.slots[j]? = some (f j)) ∧ ∀ j, j < n → fits ty (f j) = true
theorem OAr.lt {a : Addr} {ty : FieldType} {n : Nat} {f : Nat → Value} (A : OAr Z h a ty n f) : a < h.size := by obtain ⟨c, A, -⟩ := A; exact A.lt
theorem OAr.len {a : Addr} {ty : FieldType} {n : Nat} {f : Nat → Value} (A : OAr Z h a ty n f) : n < 2147483648 := by obtain ⟨c, -, -, A, -⟩ := A; exact A
theorem OAr.fit {a : Addr} {ty : FieldType} {n : Nat} {f : Nat → Value} (A : OAr Z h a ty n f) {j : Nat} (hj : j < n) : fits ty (f j) = true := by obtain ⟨c, -, -, -, -, A⟩ := A; exact A j hj
theorem OAr.ext {a : Addr} {ty : FieldType} {n : Nat} {f : Nat → Value} (A : OAr Z h a ty n f) (E : Ext h h') : OAr Z h' a ty n f := by obtain ⟨c, A, r⟩ := A; exact ⟨c, A.ext E, r⟩
theorem OAr.other {a b : Addr} {ty : FieldType} {n sl : Nat} {f : Nat → Value} {v : Value} (A : OAr Z h b ty n f) (W : Wr h h' a sl v) (q : b ≠ a) : OAr Z h' b ty n f := by obtain ⟨c, A, r⟩ := A; exact ⟨c, A.other W q, r⟩
theorem OAr.keep {a : Addr} {ty : FieldType} {n : Nat} {f : Nat → Value} {ws : List Addr} (A : OAr Z h a ty n f) (E : Keep h h' ws) (q : a ∉ ws) : OAr Z h' a ty n f := by obtain ⟨c, A, r⟩ := A; exact ⟨c, ⟨E.2.1 _ _ A.1 q, A.2⟩, r⟩
theorem OAr.congr {a : Addr} {ty : FieldType} {n : Nat} {f g : Nat → Value} (A : OAr Z h a ty n f) (q : ∀ j, j < n → f j = g j) : OAr Z h a ty n g := by
  obtain ⟨c, A, r1, r2, r3, r4⟩ := A
  exact ⟨c, A, r1, r2, fun j hj => by rw [← q j hj]; exact r3 j hj, fun j hj => by rw [← q j hj]; exact r4 j hj⟩
theorem OAr.same {a : Addr} {ty : FieldType} {n i : Nat} {f : Nat → Value} {v : Value} (A : OAr Z h a ty n f) (W : Wr h h' a i v) (hv : fits ty v = true) : OAr Z h' a ty n (fun q => if q = i then v else f q) := by
  obtain ⟨c, A, r1, r2, r3, r4⟩ := A
  refine ⟨_, A.same W, by rw [sz_set]; exact r1, r2, fun j hj => ?_, fun j hj => ?_⟩
  · by_cases e : j = i
    · subst e; simp [Cell.setSlot, r1, hj]
    · have e' : ¬ i = j := fun z => e z.symm
      simp [Cell.setSlot, e, e', r3 j hj]
  · by_cases e : j = i
    · simp [e, hv]
    · simp [e, r4 j hj]
theorem o_idx {j : Int32} {i n : Nat} {c : Cell} (hj : j.toInt = (i : Int)) (hi : i < n) (r1 : c.slots.size = n) : ¬ (j < 0 ∨ c.slots.size ≤ j.toNatClampNeg) ∧ j.toNatClampNeg = i := by
  have e : j.toNatClampNeg = i := by rw [← Int32.toNat_toInt, hj]; rfl
  refine ⟨?_, e⟩
  rw [e, r1, Int32.lt_iff_toInt_lt, hj]
  intro q
  rcases q with q | q
  · have : (0 : Int32).toInt = 0 := rfl
    omega
  · omega
theorem o_len {n : Nat} (h : n < 2147483648) : (n.toInt32).toInt = n := by
  have := len_toInt (n := n) (by omega)
  exact this
theorem o_arraylength (X : Stand p l e R s m args below meth c T locs cells slots) (K : OCx p s m meth c Z own nm bytes maxL ret) {a : Addr} {ty : FieldType} {n : Nat} {f : Nat → Value} (hd : decode bytes pc = .ok (.arraylength, 1)) (pc' : Nat) (hp : pc + 1 = pc') (eT : T.heap = h) (A : OAr Z h a ty n f) {v : Int32} (hv : v.toInt = n) (hr : OGo p e below s n0 Q kc ks (T.setTop (mkF m pc' Ls (.int v :: St)))) : OGo p e below s n0 Q kc ks (T.setTop (mkF m pc Ls (.ref a :: St))) := by
  subst hp
  obtain ⟨cl, A, r1, r2, -⟩ := A
  have e1 : cl.slots.size.toInt32 = v := by rw [← Int32.toInt_inj, hv, r1]; exact o_len r2
  refine OGo.st (fun t k => ?_) hr
  refine X.arraylength K.hx (g := mkF m pc Ls (.ref a :: St)) (by rw [eT]; exact A.1) (State.isArrayOf_alike K.hZ.alike A.2.1) rfl rfl (hb K.hby hd) t ?_
  rw [e1]
  exact k
theorem o_iaload (X : Stand p l e R s m args below meth c T locs cells slots) (K : OCx p s m meth c Z own nm bytes maxL ret) {a : Addr} {n i : Nat} {f : Nat → Value} {j : Int32} {v : Value} (hd : decode bytes pc = .ok (.iaload, 1)) (pc' : Nat) (hp : pc + 1 = pc') (eT : T.heap = h) (A : OAr Z h a .int n f) (hj : j.toInt = (i : Int)) (hi : i < n) (hv : f i = v) (hr : OGo p e below s n0 Q kc ks (T.setTop (mkF m pc' Ls (v :: St)))) : OGo p e below s n0 Q kc ks (T.setTop (mkF m pc Ls (.int j :: .ref a :: St))) := by
  subst hp
  obtain ⟨cl, A, r1, r2, r3, -⟩ := A
  obtain ⟨q1, q2⟩ := o_idx (c := cl) hj hi r1
  exact OGo.st (fun t k => X.iaload K.hx (g := mkF m pc Ls (.int j :: .ref a :: St)) (by rw [eT]; exact A.1) (State.isArrayOf_alike K.hZ.alike A.2.1) A.2.2 q1 (by rw [q2, r3 i hi, hv]) rfl rfl (hb K.hby hd) t k) hr
theorem o_laload (X : Stand p l e R s m args below meth c T locs cells slots) (K : OCx p s m meth c Z own nm bytes maxL ret) {a : Addr} {n i : Nat} {f : Nat → Value} {j : Int32} {v : Value} (hd : decode bytes pc = .ok (.laload, 1)) (pc' : Nat) (hp : pc + 1 = pc') (eT : T.heap = h) (A : OAr Z h a .long n f) (hj : j.toInt = (i : Int)) (hi : i < n) (hv : f i = v) (hr : OGo p e below s n0 Q kc ks (T.setTop (mkF m pc' Ls (v :: St)))) : OGo p e below s n0 Q kc ks (T.setTop (mkF m pc Ls (.int j :: .ref a :: St))) := by
  subst hp
  obtain ⟨cl, A, r1, r2, r3, -⟩ := A
  obtain ⟨q1, q2⟩ := o_idx (c := cl) hj hi r1
  exact OGo.st (fun t k => X.laload K.hx (g := mkF m pc Ls (.int j :: .ref a :: St)) (by rw [eT]; exact A.1) (State.isArrayOf_alike K.hZ.alike A.2.1) A.2.2 q1 (by rw [q2, r3 i hi, hv]) rfl rfl (hb K.hby hd) t k) hr
theorem o_caload (X : Stand p l e R s m args below meth c T locs cells slots) (K : OCx p s m meth c Z own nm bytes maxL ret) {a : Addr} {n i : Nat} {f : Nat → Value} {j : Int32} {v : Value} (hd : decode bytes pc = .ok (.caload, 1)) (pc' : Nat) (hp : pc + 1 = pc') (eT : T.heap = h) (A : OAr Z h a .char n f) (hj : j.toInt = (i : Int)) (hi : i < n) (hv : f i = v) (hr : OGo p e below s n0 Q kc ks (T.setTop (mkF m pc' Ls (v :: St)))) : OGo p e below s n0 Q kc ks (T.setTop (mkF m pc Ls (.int j :: .ref a :: St))) := by
  subst hp
  obtain ⟨cl, A, r1, r2, r3, -⟩ := A
  obtain ⟨q1, q2⟩ := o_idx (c := cl) hj hi r1
  exact OGo.st (fun t k => X.caload K.hx (g := mkF m pc Ls (.int j :: .ref a :: St)) (by rw [eT]; exact A.1) (State.isArrayOf_alike K.hZ.alike A.2.1) A.2.2 q1 (by rw [q2, r3 i hi, hv]) rfl rfl (hb K.hby hd) t k) hr
theorem o_saload (X : Stand p l e R s m args below meth c T locs cells slots) (K : OCx p s m meth c Z own nm bytes maxL ret) {a : Addr} {n i : Nat} {f : Nat → Value} {j : Int32} {v : Value} (hd : decode bytes pc = .ok (.saload, 1)) (pc' : Nat) (hp : pc + 1 = pc') (eT : T.heap = h) (A : OAr Z h a .short n f) (hj : j.toInt = (i : Int)) (hi : i < n) (hv : f i = v) (hr : OGo p e below s n0 Q kc ks (T.setTop (mkF m pc' Ls (v :: St)))) : OGo p e below s n0 Q kc ks (T.setTop (mkF m pc Ls (.int j :: .ref a :: St))) := by
  subst hp
  obtain ⟨cl, A, r1, r2, r3, -⟩ := A
  obtain ⟨q1, q2⟩ := o_idx (c := cl) hj hi r1
  exact OGo.st (fun t k => X.saload K.hx (g := mkF m pc Ls (.int j :: .ref a :: St)) (by rw [eT]; exact A.1) (State.isArrayOf_alike K.hZ.alike A.2.1) A.2.2 q1 (by rw [q2, r3 i hi, hv]) rfl rfl (hb K.hby hd) t k) hr
theorem o_baload (X : Stand p l e R s m args below meth c T locs cells slots) (K : OCx p s m meth c Z own nm bytes maxL ret) {a : Addr} {n i : Nat} {f : Nat → Value} {j : Int32} {v : Value} (hd : decode bytes pc = .ok (.baload, 1)) (pc' : Nat) (hp : pc + 1 = pc') (eT : T.heap = h) (A : OAr Z h a .byte n f) (hj : j.toInt = (i : Int)) (hi : i < n) (hv : f i = v) (hr : OGo p e below s n0 Q kc ks (T.setTop (mkF m pc' Ls (v :: St)))) : OGo p e below s n0 Q kc ks (T.setTop (mkF m pc Ls (.int j :: .ref a :: St))) := by
  subst hp
  obtain ⟨cl, A, r1, r2, r3, -⟩ := A
  obtain ⟨q1, q2⟩ := o_idx (c := cl) hj hi r1
  exact OGo.st (fun t k => X.baloadBytes K.hx (g := mkF m pc Ls (.int j :: .ref a :: St)) (by rw [eT]; exact A.1) (State.isArrayOf_alike K.hZ.alike A.2.1) A.2.2 q1 (by rw [q2, r3 i hi, hv]) rfl rfl (hb K.hby hd) t k) hr
theorem o_zaload (X : Stand p l e R s m args below meth c T locs cells slots) (K : OCx p s m meth c Z own nm bytes maxL ret) {a : Addr} {n i : Nat} {f : Nat → Value} {j : Int32} {v : Value} (hd : decode bytes pc = .ok (.baload, 1)) (pc' : Nat) (hp : pc + 1 = pc') (eT : T.heap = h) (A : OAr Z h a .boolean n f) (hj : j.toInt = (i : Int)) (hi : i < n) (hv : f i = v) (hr : OGo p e below s n0 Q kc ks (T.setTop (mkF m pc' Ls (v :: St)))) : OGo p e below s n0 Q kc ks (T.setTop (mkF m pc Ls (.int j :: .ref a :: St))) := by
  subst hp
  obtain ⟨cl, A, r1, r2, r3, -⟩ := A
  obtain ⟨q1, q2⟩ := o_idx (c := cl) hj hi r1
  exact OGo.st (fun t k => X.baloadBooleans K.hx (g := mkF m pc Ls (.int j :: .ref a :: St)) (by rw [eT]; exact A.1) (State.isArrayOf_alike K.hZ.alike A.2.1) A.2.2 q1 (by rw [q2, r3 i hi, hv]) rfl rfl (hb K.hby hd) t k) hr
theorem o_aaload (X : Stand p l e R s m args below meth c T locs cells slots) (K : OCx p s m meth c Z own nm bytes maxL ret) {a : Addr} {ty : FieldType} {n i : Nat} {f : Nat → Value} {j : Int32} {v : Value} (hd : decode bytes pc = .ok (.aaload, 1)) (pc' : Nat) (hp : pc + 1 = pc') (eT : T.heap = h) (A : OAr Z h a ty n f) (hty : ty.isReference = true) (hj : j.toInt = (i : Int)) (hi : i < n) (hv : f i = v) (hr : OGo p e below s n0 Q kc ks (T.setTop (mkF m pc' Ls (v :: St)))) : OGo p e below s n0 Q kc ks (T.setTop (mkF m pc Ls (.int j :: .ref a :: St))) := by
  subst hp
  obtain ⟨cl, A, r1, r2, r3, -⟩ := A
  obtain ⟨q1, q2⟩ := o_idx (c := cl) hj hi r1
  exact OGo.st (fun t k => X.aaload K.hx (g := mkF m pc Ls (.int j :: .ref a :: St)) (by rw [eT]; exact A.1) (State.isArrayOf_alike K.hZ.alike A.2.1) hty A.2.2 q1 (by rw [q2, r3 i hi, hv]) rfl rfl (hb K.hby hd) t k) hr
theorem o_bastore (X : Stand p l e R s m args below meth c T locs cells slots) (K : OCx p s m meth c Z own nm bytes maxL ret) {a : Addr} {n i : Nat} {f : Nat → Value} {j : Int32} {x x' : Int32} (hd : decode bytes pc = .ok (.bastore, 1)) (pc' : Nat) (hp : pc + 1 = pc') (eT : T.heap = h) (A : OAr Z h a .byte n f) (hj : j.toInt = (i : Int)) (hi : i < n) (hv : nar .byte x = x') (N : Fr n0 locs) (ge : n0 ≤ a)
    (hr : ∀ T' h' locs', Stand p l e R s m args below meth c T' locs' cells slots → T'.heap = h' → Wr h h' a i (.int x') → OAr Z h' a .byte n (fun q => if q = i then (.int x') else f q) → Fr n0 locs' → OGo p e below s n0 Q kc ks (T'.setTop (mkF m pc' Ls St))) : OGo p e below s n0 Q kc ks (T.setTop (mkF m pc Ls (.int x :: .int j :: .ref a :: St))) := by
  subst hp hv
  obtain ⟨cl, B, r1, r2, r3, -⟩ := id A
  obtain ⟨q1, q2⟩ := o_idx (c := cl) hj hi r1
  obtain ⟨T', h', X', e', W', st'⟩ := stB X K.hx K.hZ eT B q1 (g := mkF m pc Ls (.int x :: .int j :: .ref a :: St)) rfl rfl (hb K.hby hd)
  have N' := Fr.snoc X' N ge
  rw [q2] at W'
  exact OGo.st st' (hr T' h' _ X' e' W' (A.same W' (fits_nar_byte x)) N')
theorem o_castore (X : Stand p l e R s m args below meth c T locs cells slots) (K : OCx p s m meth c Z own nm bytes maxL ret) {a : Addr} {n i : Nat} {f : Nat → Value} {j : Int32} {x x' : Int32} (hd : decode bytes pc = .ok (.castore, 1)) (pc' : Nat) (hp : pc + 1 = pc') (eT : T.heap = h) (A : OAr Z h a .char n f) (hj : j.toInt = (i : Int)) (hi : i < n) (hv : nar .char x = x') (N : Fr n0 locs) (ge : n0 ≤ a)
    (hr : ∀ T' h' locs', Stand p l e R s m args below meth c T' locs' cells slots → T'.heap = h' → Wr h h' a i (.int x') → OAr Z h' a .char n (fun q => if q = i then (.int x') else f q) → Fr n0 locs' → OGo p e below s n0 Q kc ks (T'.setTop (mkF m pc' Ls St))) : OGo p e below s n0 Q kc ks (T.setTop (mkF m pc Ls (.int x :: .int j :: .ref a :: St))) := by
  subst hp hv
  obtain ⟨cl, B, r1, r2, r3, -⟩ := id A
  obtain ⟨q1, q2⟩ := o_idx (c := cl) hj hi r1
  obtain ⟨T', h', X', e', W', st'⟩ := stC X K.hx K.hZ eT B q1 (g := mkF m pc Ls (.int x :: .int j :: .ref a :: St)) rfl rfl (hb K.hby hd)
  have N' := Fr.snoc X' N ge
  rw [q2] at W'
  exact OGo.st st' (hr T' h' _ X' e' W' (A.same W' (fits_nar_char x)) N')
theorem o_sastore (X : Stand p l e R s m args below meth c T locs cells slots) (K : OCx p s m meth c Z own nm bytes maxL ret) {a : Addr} {n i : Nat} {f : Nat → Value} {j : Int32} {x x' : Int32} (hd : decode bytes pc = .ok (.sastore, 1)) (pc' : Nat) (hp : pc + 1 = pc') (eT : T.heap = h) (A : OAr Z h a .short n f) (hj : j.toInt = (i : Int)) (hi : i < n) (hv : nar .short x = x') (N : Fr n0 locs) (ge : n0 ≤ a)
    (hr : ∀ T' h' locs', Stand p l e R s m args below meth c T' locs' cells slots → T'.heap = h' → Wr h h' a i (.int x') → OAr Z h' a .short n (fun q => if q = i then (.int x') else f q) → Fr n0 locs' → OGo p e below s n0 Q kc ks (T'.setTop (mkF m pc' Ls St))) : OGo p e below s n0 Q kc ks (T.setTop (mkF m pc Ls (.int x :: .int j :: .ref a :: St))) := by
  subst hp hv
  obtain ⟨cl, B, r1, r2, r3, -⟩ := id A
  obtain ⟨q1, q2⟩ := o_idx (c := cl) hj hi r1
  obtain ⟨T', h', X', e', W', st'⟩ := stS X K.hx K.hZ eT B q1 (g := mkF m pc Ls (.int x :: .int j :: .ref a :: St)) rfl rfl (hb K.hby hd)
  have N' := Fr.snoc X' N ge
  rw [q2] at W'
  exact OGo.st st' (hr T' h' _ X' e' W' (A.same W' (fits_nar_short x)) N')
theorem o_zastore (X : Stand p l e R s m args below meth c T locs cells slots) (K : OCx p s m meth c Z own nm bytes maxL ret) {a : Addr} {n i : Nat} {f : Nat → Value} {j : Int32} {x x' : Int32} (hd : decode bytes pc = .ok (.bastore, 1)) (pc' : Nat) (hp : pc + 1 = pc') (eT : T.heap = h) (A : OAr Z h a .boolean n f) (hj : j.toInt = (i : Int)) (hi : i < n) (hv : nar .boolean x = x') (N : Fr n0 locs) (ge : n0 ≤ a)
    (hr : ∀ T' h' locs', Stand p l e R s m args below meth c T' locs' cells slots → T'.heap = h' → Wr h h' a i (.int x') → OAr Z h' a .boolean n (fun q => if q = i then (.int x') else f q) → Fr n0 locs' → OGo p e below s n0 Q kc ks (T'.setTop (mkF m pc' Ls St))) : OGo p e below s n0 Q kc ks (T.setTop (mkF m pc Ls (.int x :: .int j :: .ref a :: St))) := by
  subst hp hv
  obtain ⟨cl, B, r1, r2, r3, -⟩ := id A
  obtain ⟨q1, q2⟩ := o_idx (c := cl) hj hi r1
  obtain ⟨T', h', X', e', W', st'⟩ := stZ X K.hx K.hZ eT B q1 (g := mkF m pc Ls (.int x :: .int j :: .ref a :: St)) rfl rfl (hb K.hby hd)
  have N' := Fr.snoc X' N ge
  rw [q2] at W'
  exact OGo.st st' (hr T' h' _ X' e' W' (A.same W' (fits_nar_bool x)) N')
theorem o_iastore (X : Stand p l e R s m args below meth c T locs cells slots) (K : OCx p s m meth c Z own nm bytes maxL ret) {a : Addr} {n i : Nat} {f : Nat → Value} {j : Int32} {x x' : Int32} (hd : decode bytes pc = .ok (.iastore, 1)) (pc' : Nat) (hp : pc + 1 = pc') (eT : T.heap = h) (A : OAr Z h a .int n f) (hj : j.toInt = (i : Int)) (hi : i < n) (hv : x = x') (N : Fr n0 locs) (ge : n0 ≤ a)
    (hr : ∀ T' h' locs', Stand p l e R s m args below meth c T' locs' cells slots → T'.heap = h' → Wr h h' a i (.int x') → OAr Z h' a .int n (fun q => if q = i then (.int x') else f q) → Fr n0 locs' → OGo p e below s n0 Q kc ks (T'.setTop (mkF m pc' Ls St))) : OGo p e below s n0 Q kc ks (T.setTop (mkF m pc Ls (.int x :: .int j :: .ref a :: St))) := by
  subst hp hv
  obtain ⟨cl, B, r1, r2, r3, -⟩ := id A
  obtain ⟨q1, q2⟩ := o_idx (c := cl) hj hi r1
  obtain ⟨T', h', X', e', W', st'⟩ := stI X K.hx K.hZ eT B q1 (g := mkF m pc Ls (.int x :: .int j :: .ref a :: St)) rfl rfl (hb K.hby hd)
  have N' := Fr.snoc X' N ge
  rw [q2] at W'
  exact OGo.st st' (hr T' h' _ X' e' W' (A.same W' (rfl)) N')
theorem o_lastore (X : Stand p l e R s m args below meth c T locs cells slots) (K : OCx p s m meth c Z own nm bytes maxL ret) {a : Addr} {n i : Nat} {f : Nat → Value} {j : Int32} {x x' : Int64} (hd : decode bytes pc = .ok (.lastore, 1)) (pc' : Nat) (hp : pc + 1 = pc') (eT : T.heap = h) (A : OAr Z h a .long n f) (hj : j.toInt = (i : Int)) (hi : i < n) (hv : x = x') (N : Fr n0 locs) (ge : n0 ≤ a)
    (hr : ∀ T' h' locs', Stand p l e R s m args below meth c T' locs' cells slots → T'.heap = h' → Wr h h' a i (.long x') → OAr Z h' a .long n (fun q => if q = i then (.long x') else f q) → Fr n0 locs' → OGo p e below s n0 Q kc ks (T'.setTop (mkF m pc' Ls St))) : OGo p e below s n0 Q kc ks (T.setTop (mkF m pc Ls (.long x :: .int j :: .ref a :: St))) := by
  subst hp hv
  obtain ⟨cl, B, r1, r2, r3, -⟩ := id A
  obtain ⟨q1, q2⟩ := o_idx (c := cl) hj hi r1
  obtain ⟨T', h', X', e', W', st'⟩ := stJ X K.hx K.hZ eT B q1 (g := mkF m pc Ls (.long x :: .int j :: .ref a :: St)) rfl rfl (hb K.hby hd)
  have N' := Fr.snoc X' N ge
  rw [q2] at W'
  exact OGo.st st' (hr T' h' _ X' e' W' (A.same W' (rfl)) N')
theorem o_newarray (X : Stand p l e R s m args below meth c T locs cells slots) (K : OCx p s m meth c Z own nm bytes maxL ret) {aty : ArrayType} {z : Int32} {n : Nat} (hd : decode bytes pc = .ok (.newarray aty, 2)) (pc' : Nat) (hp : pc + 2 = pc') (w : (Jvm.Cond.arrayClass (newarray.typeOf aty)).before a0 Z = true) (eT : T.heap = h) (hz : z.toInt = (n : Int)) (cap : Nat) (hcap : n ≤ cap) (hb8 : cap * 8 ≤ 536870912) (hc : cells + 1 ≤ R.cells) (hl : slots + cap ≤ R.slots)
    (hdv : fits (newarray.typeOf aty) (defaultValue (newarray.typeOf aty)) = true)
    (hr : ∀ T' h' a, a = h.size → Stand p l e R s m args below meth c T' locs (cells + 1) (slots + cap) → T'.heap = h' → Ext h h' → OAr Z h' a (newarray.typeOf aty) n (fun _ => defaultValue (newarray.typeOf aty)) → OGo p e below s n0 Q kc ks (T'.setTop (mkF m pc' Ls (.ref a :: St)))) : OGo p e below s n0 Q kc ks (T.setTop (mkF m pc Ls (.int z :: St))) := by
  subst hp
  have e1 : z.toNatClampNeg = n := by rw [← Int32.toNat_toInt, hz]; rfl
  have hneg : ¬ z < 0 := by
    rw [Int32.lt_iff_toInt_lt, hz]
    have : (0 : Int32).toInt = 0 := rfl
    omega
  obtain ⟨T', h', cA, X', e', E', A', st'⟩ := newP X K.hx K.hZ w eT (g := mkF m pc Ls (.int z :: St)) rfl (hb K.hby hd) rfl hneg (cap := cap) (by omega) hb8 hc hl
  refine OGo.st st' (hr T' h' _ rfl X' e' E' ⟨_, A', (sz_new _ _ _).trans e1, ?_, fun j hj => ?_, fun j _ => hdv⟩)
  · have := (rng32 z).2
    omega
  · simp [newA, e1, hj]
theorem o_anewarray (X : Stand p l e R s m args below meth c T locs cells slots) (K : OCx p s m meth c Z own nm bytes maxL ret) {C : String} {index : Nat} {z : Int32} {n : Nat} (hd : decode bytes pc = .ok (.anewarray index, 3)) (pc' : Nat) (hp : pc + 3 = pc') (w1 : (Jvm.Cond.classLink own index C).before a0 Z = true) (w2 : (Jvm.Cond.arrayOver (.object C)).before a0 Z = true) (eT : T.heap = h) (hz : z.toInt = (n : Int)) (cap : Nat) (hcap : n ≤ cap) (hb8 : cap * 8 ≤ 536870912) (hc : cells + 1 ≤ R.cells) (hl : slots + cap ≤ R.slots)
    (hr : ∀ T' h' a, a = h.size → Stand p l e R s m args below meth c T' locs (cells + 1) (slots + cap) → T'.heap = h' → Ext h h' → OAr Z h' a (.object C) n (fun _ => .null) → (∃ cl : Cell, h'[a]? = some cl ∧ Ovr Z cl.cls C) → OGo p e below s n0 Q kc ks (T'.setTop (mkF m pc' Ls (.ref a :: St)))) : OGo p e below s n0 Q kc ks (T.setTop (mkF m pc Ls (.int z :: St))) := by
  subst hp
  have e1 : z.toNatClampNeg = n := by rw [← Int32.toNat_toInt, hz]; rfl
  have hneg : ¬ z < 0 := by
    rw [Int32.lt_iff_toInt_lt, hz]
    have : (0 : Int32).toInt = 0 := rfl
    omega
  obtain ⟨T', h', cA, X', e', E', A', O', st'⟩ := newR X K.hx K.hZ K.hown w1 w2 eT (g := mkF m pc Ls (.int z :: St)) rfl (hb K.hby hd) rfl hneg (cap := cap) (by omega) hb8 hc hl
  refine OGo.st st' (hr T' h' _ rfl X' e' E' ⟨_, A', (sz_new _ _ _).trans e1, ?_, fun j hj => ?_, fun j _ => rfl⟩ ⟨_, A'.1, O'⟩)
  · have := (rng32 z).2
    omega
  · simp [newA, e1, hj, defaultValue]
theorem o_new (X : Stand p l e R s m args below meth c T locs cells slots) (K : OCx p s m meth c Z own nm bytes maxL ret) {C : String} {index k : Nat} (hd : decode bytes pc = .ok (.new index, 3)) (pc' : Nat) (hp : pc + 3 = pc') (w : (Jvm.Cond.classLink own index C).before a0 Z = true) (wi : (Jvm.Cond.instantiable C k).before a0 Z = true) (wz : (Jvm.Cond.initialized C).before a0 Z = true) (eT : T.heap = h) (hc : cells + 1 ≤ R.cells) (hl : slots + k ≤ R.slots)
    (hr : ∀ T' h' a, a = h.size → Stand p l e R s m args below meth c T' locs (cells + 1) (slots + k) → T'.heap = h' → Ext h h' → Exa Z h' a C → (∀ {O nm d : String} {ty : FieldType}, Laid Z a0 C O nm d → parseFieldDescriptor d = some ty → Fld Z h' a O nm d (defaultValue ty)) → OGo p e below s n0 Q kc ks (T'.setTop (mkF m pc' Ls (.ref a :: St)))) : OGo p e below s n0 Q kc ks (T.setTop (mkF m pc Ls St)) := by
  subst hp
  obtain ⟨T', h', X', e', E', A', D', -, st'⟩ := newO X K.hx K.hZ K.hown w wi wz eT (g := mkF m pc Ls St) rfl (hb K.hby hd) hc hl
  exact OGo.st st' (hr T' h' _ rfl X' e' E' A' D')
theorem o_initO (X : Stand p l e R s m args below meth c T locs cells slots) (K : OCx p s m meth c Z own nm bytes maxL ret) {idx : Nat} {a : Addr} (hd : decode bytes pc = .ok (.invokespecial idx, 3)) (pc' : Nat) (hp : pc + 3 = pc') (w1 : (Jvm.Cond.methodLink own idx Lib.objectInit).before a0 Z = true) (w2 : (Jvm.Cond.instanceMethod Lib.objectInit).before a0 Z = true) (w3 : (Jvm.Cond.code Lib.objectInit ⟨#[0xb1]⟩ 1 none).before a0 Z = true) (eT : T.heap = h) (hsz : Ls.size = maxL)
    (hf : 1 ≤ R.frames) (W : Nat) (hW : (St.map fun v => v.category).sum ≤ W) (hl : W + 12 ≤ R.locals) (hr : ∀ T', Stand p l e R s m args below meth c T' locs cells slots → T'.heap = h → OGo p e below s n0 Q kc ks (T'.setTop (mkF m pc' Ls St))) : OGo p e below s n0 Q kc ks (T.setTop (mkF m pc Ls (.ref a :: St))) := by
  subst hp
  obtain ⟨T', X', e', st'⟩ := initO X K.hx K.hZ K.hown w1 w2 w3 eT (g := mkF m pc Ls (.ref a :: St)) rfl (by rw [K.hml]; exact hsz) rfl (hb K.hby hd) hf (W := W) (by show 2 * 0 + _ ≤ _; omega) hl
  exact OGo.st st' (hr T' X' e')
theorem o_getfield (X : Stand p l e R s m args below meth c T locs cells slots) (K : OCx p s m meth c Z own nm bytes maxL ret) {index : Nat} {R0 O n d host : String} {a : Addr} {v : Value} (hd : decode bytes pc = .ok (.getfield index, 3)) (pc' : Nat) (hp : pc + 3 = pc') (w : (Jvm.Cond.fieldLink own index R0 n d).before a0 Z = true ∨ (Jvm.Cond.fieldLinkNest own index R0 n d host).before a0 Z = true) (via : Via Z R0 O n d) (eT : T.heap = h) (F : Fld Z h a O n d v)
    (hr : ∀ T', Stand p l e R s m args below meth c T' locs cells slots → T'.heap = h → OGo p e below s n0 Q kc ks (T'.setTop (mkF m pc' Ls (v :: St)))) : OGo p e below s n0 Q kc ks (T.setTop (mkF m pc Ls (.ref a :: St))) := by
  subst hp
  obtain ⟨T', X', e', st'⟩ := getF X K.hx K.hZ K.hown w via eT F (g := mkF m pc Ls (.ref a :: St)) rfl rfl (hb K.hby hd)
  exact OGo.st st' (hr T' X' e')
theorem o_getstatic (X : Stand p l e R s m args below meth c T locs cells slots) (K : OCx p s m meth c Z own nm bytes maxL ret) {index : Nat} {R0 O n d host : String} {v : Value} (hd : decode bytes pc = .ok (.getstatic index, 3)) (pc' : Nat) (hp : pc + 3 = pc') (w : (Jvm.Cond.fieldLink own index R0 n d).before a0 Z = true ∨ (Jvm.Cond.fieldLinkNest own index R0 n d host).before a0 Z = true) (via : Via Z R0 O n d) (eT : T.heap = h) (F : Sta Z h O n d v)
    (hr : ∀ T', Stand p l e R s m args below meth c T' locs cells slots → T'.heap = h → OGo p e below s n0 Q kc ks (T'.setTop (mkF m pc' Ls (v :: St)))) : OGo p e below s n0 Q kc ks (T.setTop (mkF m pc Ls St)) := by
  subst hp
  obtain ⟨T', X', e', st'⟩ := getS2 X K.hx K.hZ K.hown w via eT F (g := mkF m pc Ls St) rfl (hb K.hby hd)
  exact OGo.st st' (hr T' X' e')
theorem o_putfield (X : Stand p l e R s m args below meth c T locs cells slots) (K : OCx p s m meth c Z own nm bytes maxL ret) {index kk : Nat} {R0 O n d host C : String} {a : Addr} {v old : Value} {ty : FieldType} (hd : decode bytes pc = .ok (.putfield index, 3)) (pc' : Nat) (hp : pc + 3 = pc') (w : (Jvm.Cond.fieldLink own index R0 n d).before a0 Z = true ∨ (Jvm.Cond.fieldLinkNest own index R0 n d host).before a0 Z = true) (via : Via Z R0 O n d) (eT : T.heap = h) (F : Fld Z h a O n d old) (E : Exa Z h a C)
    (L : (Jvm.Cond.lays C O n d).before a0 Z = true ∨ ((Jvm.Cond.laysFinal C O n d).before a0 Z = true ∧ own = O ∧ nm = "<init>")) (wi : (Jvm.Cond.instantiable C kk).before a0 Z = true) (hty : parseFieldDescriptor d = some ty) (hn : narrow ty v = v) (hf : fits ty v = true) (N : Fr n0 locs) (ge : n0 ≤ a)
    (hr : ∀ T' h' locs', Stand p l e R s m args below meth c T' locs' cells slots → T'.heap = h' → Wr h h' a (Jvm.RoadKit.slotOf Z O n d) v → Fr n0 locs' → OGo p e below s n0 Q kc ks (T'.setTop (mkF m pc' Ls St))) : OGo p e below s n0 Q kc ks (T.setTop (mkF m pc Ls (v :: .ref a :: St))) := by
  subst hp
  obtain ⟨T', h', X', e', W', st'⟩ := putF X K.hx K.hZ K.hown w via eT F E (L.imp id fun q => ⟨q.1, q.2.1, K.hnm.trans q.2.2⟩) wi hty hn hf (g := mkF m pc Ls (v :: .ref a :: St)) rfl rfl (hb K.hby hd)
  exact OGo.st st' (hr T' h' _ X' e' W' (Fr.snoc X' N ge))
theorem o_putfieldN (X : Stand p l e R s m args below meth c T locs cells slots) (K : OCx p s m meth c Z own nm bytes maxL ret) {index kk : Nat} {R0 O n d C : String} {a : Addr} {v v' old : Value} {ty : FieldType} (hd : decode bytes pc = .ok (.putfield index, 3)) (pc' : Nat) (hp : pc + 3 = pc') (w : (Jvm.Cond.fieldLink own index R0 n d).before a0 Z = true) (via : Via Z R0 O n d) (eT : T.heap = h) (F : Fld Z h a O n d old) (E : Exa Z h a C)
    (L : (Jvm.Cond.lays C O n d).before a0 Z = true ∨ ((Jvm.Cond.laysFinal C O n d).before a0 Z = true ∧ own = O ∧ nm = "<init>")) (wi : (Jvm.Cond.instantiable C kk).before a0 Z = true) (hty : parseFieldDescriptor d = some ty) (hn : narrow ty v = v') (hf : fits ty v' = true) (N : Fr n0 locs) (ge : n0 ≤ a)
    (hr : ∀ T' h' locs', Stand p l e R s m args below meth c T' locs' cells slots → T'.heap = h' → Wr h h' a (Jvm.RoadKit.slotOf Z O n d) v' → Fr n0 locs' → OGo p e below s n0 Q kc ks (T'.setTop (mkF m pc' Ls St))) : OGo p e below s n0 Q kc ks (T.setTop (mkF m pc Ls (v :: .ref a :: St))) := by
  subst hp
  obtain ⟨T', h', X', e', W', st'⟩ := putFN X K.hx K.hZ K.hown w via eT F E (L.imp id fun q => ⟨q.1, q.2.1, K.hnm.trans q.2.2⟩) wi hty hn hf (g := mkF m pc Ls (v :: .ref a :: St)) rfl rfl (hb K.hby hd)
  exact OGo.st st' (hr T' h' _ X' e' W' (Fr.snoc X' N ge))
theorem o_invokestatic (X : Stand p l e R s m args below meth c T locs cells slots) (K : OCx p s m meth c Z own nm bytes maxL ret) {index : Nat} {y : MethodName} {bytes' : ByteArray} {maxL' : Nat} {ret' : Option FieldType} {rm : Room} {Q' : Option Value → Heap → Prop} (hd : decode bytes pc = .ok (.invokestatic index, 3)) (pc' : Nat) (hp : pc + 3 = pc') (w1 : (Jvm.Cond.methodLink own index y).before a0 Z = true) (w2 : (Jvm.Cond.static y).before a0 Z = true) (w3 : (Jvm.Cond.initialized y.cls).before a0 Z = true) (w4 : (Jvm.Cond.code y bytes' maxL' ret').before a0 Z = true) (hy : y.cls ≠ "java/lang/invoke/MethodHandle" ∧ y.cls ≠ "java/lang/invoke/VarHandle")
    (argsL rest : List Value) (hst : St = argsL.reverse ++ rest) (con : OCon l Z n0 y bytes' maxL' ret' rm argsL.toArray h Q') (eT : T.heap = h) (hsz : Ls.size = maxL) (hlen : ∀ sig, parseMethodDescriptor y.desc = some sig → argsL.length = sig.parameters.length) (hf : rm.frames + 1 ≤ R.frames) (W : Nat) (hW : (rest.map fun v => v.category).sum ≤ W) (hlo : W + (maxL' + 11) + rm.locals ≤ R.locals) (hc : cells + rm.cells ≤ R.cells) (hs : slots + rm.slots ≤ R.slots) (N : Fr n0 locs)
    (hr : ∀ v T' h' locs', Stand p l e R s m args below meth c T' locs' (cells + rm.cells) (slots + rm.slots) → T'.heap = h' → Q' v h' → Fr n0 locs' → OGo p e below s n0 Q kc ks (T'.setTop (mkF m pc' Ls (v.toList ++ rest)))) : OGo p e below s n0 Q kc ks (T.setTop (mkF m pc Ls St)) := by
  subst hp hst
  obtain ⟨v, vm₁, ⟨T', L', k', n'⟩, -, X', ⟨Lc, ⟨hQ, hF⟩, l1, y1, z1⟩, st⟩ := Jvm.LawKit.callS X K.hx K.hown (mvT K.hZ w1) (mvT K.hZ w2) (mvT K.hZ w3) (mvT K.hZ w4) hy (backOf (W := W) (Q := fun v h L => Q' v h ∧ Fr n0 L) (con []) K.hZ w4 w3 hf hlo) (g := mkF m pc Ls (argsL.reverse ++ rest)) rfl (by rw [K.hml]; exact hsz) (argsL := argsL) (rest := rest) hlen rfl (by show 2 * 0 + _ ≤ _; omega) (hb K.hby hd) (fun _ _ => ⟨rfl, eT, hc, hs⟩)
  dsimp only [Pt.U, Pt.locs, Pt.cells, Pt.slots] at X' l1 y1 z1 st hQ
  subst l1 y1 z1
  exact OGo.st st (hr v T' _ _ X' rfl hQ (Fr.app N hF))
theorem o_invokespecial (X : Stand p l e R s m args below meth c T locs cells slots) (K : OCx p s m meth c Z own nm bytes maxL ret) {index : Nat} {y : MethodName} {bytes' : ByteArray} {maxL' : Nat} {rm : Room} {Q' : Option Value → Heap → Prop} {a : Addr} (hd : decode bytes pc = .ok (.invokespecial index, 3)) (pc' : Nat) (hp : pc + 3 = pc') (hy1 : y.name = "<init>") (w1 : (Jvm.Cond.methodLink own index y).before a0 Z = true) (w2 : (Jvm.Cond.instanceMethod y).before a0 Z = true) (w3 : (Jvm.Cond.initialized y.cls).before a0 Z = true) (w4 : (Jvm.Cond.code y bytes' maxL' none).before a0 Z = true) (hy : y.cls ≠ "java/lang/invoke/MethodHandle" ∧ y.cls ≠ "java/lang/invoke/VarHandle")
    (argsL rest : List Value) (hst : St = argsL.reverse ++ .ref a :: rest) (con : OCon l Z n0 y bytes' maxL' none rm (.ref a :: argsL).toArray h Q') (eT : T.heap = h) (hsz : Ls.size = maxL) (hlen : ∀ sig, parseMethodDescriptor y.desc = some sig → argsL.length = sig.parameters.length) (hf : rm.frames + 1 ≤ R.frames) (W : Nat) (hW : (rest.map fun v => v.category).sum ≤ W) (hlo : W + (maxL' + 11) + rm.locals ≤ R.locals) (hc : cells + rm.cells ≤ R.cells) (hs : slots + rm.slots ≤ R.slots) (N : Fr n0 locs)
    (hr : ∀ v T' h' locs', Stand p l e R s m args below meth c T' locs' (cells + rm.cells) (slots + rm.slots) → T'.heap = h' → Q' v h' → Fr n0 locs' → OGo p e below s n0 Q kc ks (T'.setTop (mkF m pc' Ls (v.toList ++ rest)))) : OGo p e below s n0 Q kc ks (T.setTop (mkF m pc Ls St)) := by
  subst hp hst
  obtain ⟨v, vm₁, ⟨T', L', k', n'⟩, -, X', ⟨Lc, ⟨hQ, hF⟩, l1, y1, z1⟩, st⟩ := X.specialBack K.hx hy1 K.hown (mvT K.hZ w1) (mvT K.hZ w2) (mvT K.hZ w4) hy (backOf (W := W) (Q := fun v h L => Q' v h ∧ Fr n0 L) (con []) K.hZ w4 w3 hf hlo) (g := mkF m pc Ls (argsL.reverse ++ .ref a :: rest)) rfl (by rw [K.hml]; exact hsz) (Steps.refl _) (argsL := argsL) (rest := rest) hlen rfl (by show 2 * 0 + _ ≤ _; omega) (hb K.hby hd) (fun _ _ => ⟨rfl, eT, hc, hs⟩)
  dsimp only [Pt.U, Pt.locs, Pt.cells, Pt.slots] at X' l1 y1 z1 st hQ
  subst l1 y1 z1
  exact OGo.st (fun t k => st.trans k) (hr v T' _ _ X' rfl hQ (Fr.app N hF))
theorem o_invokevirtual (X : Stand p l e R s m args below meth c T locs cells slots) (K : OCx p s m meth c Z own nm bytes maxL ret) {index : Nat} {y : MethodName} {bytes' : ByteArray} {maxL' : Nat} {ret' : Option FieldType} {rm : Room} {Q' : Option Value → Heap → Prop} {C : String} {a : Addr} (hd : decode bytes pc = .ok (.invokevirtual index, 3)) (pc' : Nat) (hp : pc + 3 = pc') (w1 : (Jvm.Cond.methodLink own index y).before a0 Z = true) (w2 : (Jvm.Cond.declares y).before a0 Z = true) (wsel : (Jvm.Cond.selects C y y).before a0 Z = true) (w5 : (Jvm.Cond.instanceMethod y).before a0 Z = true) (w3 : (Jvm.Cond.initialized y.cls).before a0 Z = true) (w4 : (Jvm.Cond.code y bytes' maxL' ret').before a0 Z = true) (hy : y.cls ≠ "java/lang/invoke/MethodHandle" ∧ y.cls ≠ "java/lang/invoke/VarHandle")
    (E : Exa Z h a C) (argsL rest : List Value) (hst : St = argsL.reverse ++ .ref a :: rest) (con : OCon l Z n0 y bytes' maxL' ret' rm (.ref a :: argsL).toArray h Q') (eT : T.heap = h) (hsz : Ls.size = maxL) (hlen : ∀ sig, parseMethodDescriptor y.desc = some sig → argsL.length = sig.parameters.length) (hf : rm.frames + 1 ≤ R.frames) (W : Nat) (hW : (rest.map fun v => v.category).sum ≤ W) (hlo : W + (maxL' + 11) + rm.locals ≤ R.locals) (hc : cells + rm.cells ≤ R.cells) (hs : slots + rm.slots ≤ R.slots) (N : Fr n0 locs)
    (hr : ∀ v T' h' locs', Stand p l e R s m args below meth c T' locs' (cells + rm.cells) (slots + rm.slots) → T'.heap = h' → Q' v h' → Fr n0 locs' → OGo p e below s n0 Q kc ks (T'.setTop (mkF m pc' Ls (v.toList ++ rest)))) : OGo p e below s n0 Q kc ks (T.setTop (mkF m pc Ls St)) := by
  subst hp hst
  obtain ⟨cq, kq, qa, qb, qc⟩ := isOf K.hZ eT E
  obtain ⟨v, vm₁, ⟨T', L', k', n'⟩, -, X', ⟨Lc, ⟨hQ, hF⟩, l1, y1, z1⟩, st⟩ := X.virtualBack K.hx K.hown (mvT K.hZ w1) (mvT K.hZ w2) (notFace_of_selects (args := #[]) (mvT K.hZ wsel)) (mvT K.hZ wsel) (mvT K.hZ w5) hy (backOf (W := W) (Q := fun v h L => Q' v h ∧ Fr n0 L) (con []) K.hZ w4 w3 hf hlo) qa qc (g := mkF m pc Ls (argsL.reverse ++ .ref a :: rest)) rfl (by rw [K.hml]; exact hsz) (Steps.refl _) (argsL := argsL) (rest := rest) hlen rfl (by show 2 * 0 + _ ≤ _; omega) (hb K.hby hd) (fun _ _ => ⟨rfl, eT, hc, hs⟩)
  dsimp only [Pt.U, Pt.locs, Pt.cells, Pt.slots] at X' l1 y1 z1 st hQ
  subst l1 y1 z1
  exact OGo.st (fun t k => st.trans k) (hr v T' _ _ X' rfl hQ (Fr.app N hF))
theorem o_nb (x : Int32) : nar .byte (x.toInt8.toInt32) = x.toInt8.toInt32 := by
  show x.toInt8.toInt32.toInt8.toInt32 = _
  simp
theorem o_join {α : Type} (F : α → State) (P : α → Prop) {S : State} (hgo : (∀ b, P b → OGo p e below s n0 Q kc ks (F b)) → OGo p e below s n0 Q kc ks S) (hrest : ∀ b, P b → OGo p e below s n0 Q kc ks (F b)) : OGo p e below s n0 Q kc ks S := hgo hrest
theorem o_ind {α : Type} (F : α → State) (Inv : Nat → α → Prop) (hz : ∀ a, Inv 0 a → OGo p e below s n0 Q kc ks (F a)) (hs : ∀ d, (∀ a, Inv d a → OGo p e below s n0 Q kc ks (F a)) → ∀ a, Inv (d + 1) a → OGo p e below s n0 Q kc ks (F a)) (d : Nat) (a : α) (i : Inv d a) : OGo p e below s n0 Q kc ks (F a) := by
  induction d generalizing a with
  | zero => exact hz a i
  | succ d ih => exact hs d ih a i
theorem o_sta_keep {C n d : String} {v : Value} {ws : List Addr} (F : Sta Z h C n d v) (k : Keep h h' ws) (q : ∀ x ∈ ws, ∀ cell : Cell, h[x]? = some cell → cell.vm.isStatics = false) : Sta Z h' C n d v := by
  obtain ⟨cf, i, kk, f, st, cell, h1, h2, h3, h4, h5, h6, h7⟩ := F
  refine ⟨cf, i, kk, f, st, cell, h1, h2, h3, h4, k.2.1 _ _ h5 (fun z => ?_), h6, h7⟩
  rw [q st z cell h5] at h6
  cases h6
abbrev OW (Z : State) (a0 : Array Value) : Prop := ∀ d ∈ tables_1, d.before a0 Z = true
end Own
set_option maxRecDepth 65536
theorem w_0 {Z : State} {a0 : Array Value} (hw : OW Z a0) : (Jvm.Cond.arrayClass Jvm.ClassFile.FieldType.byte).before a0 Z = true := hw _ (List.mem_of_getElem? (i := 0) rfl)
theorem w_1 {Z : State} {a0 : Array Value} (hw : OW Z a0) : (Jvm.Cond.methodLink "com/example/outlet_to_office/outlettooffice/storage/JournalFieldsSizePinLaw" (7 : Nat) ({ cls := "com/example/outlet_to_office/outlettooffice/storage/JournalFields", name := "size", desc := "([B)I" } : Jvm.MethodName)).before a0 Z = true := hw _ (List.mem_of_getElem? (i := 1) rfl)
theorem w_2 {Z : State} {a0 : Array Value} (hw : OW Z a0) : (Jvm.Cond.static ({ cls := "com/example/outlet_to_office/outlettooffice/storage/JournalFields", name := "size", desc := "([B)I" } : Jvm.MethodName)).before a0 Z = true := hw _ (List.mem_of_getElem? (i := 2) rfl)
theorem w_3 {Z : State} {a0 : Array Value} (hw : OW Z a0) : (Jvm.Cond.initialized "com/example/outlet_to_office/outlettooffice/storage/JournalFields").before a0 Z = true := hw _ (List.mem_of_getElem? (i := 3) rfl)
theorem w_4 {Z : State} {a0 : Array Value} (hw : OW Z a0) : (Jvm.Cond.code ({ cls := "com/example/outlet_to_office/outlettooffice/storage/JournalFields", name := "size", desc := "([B)I" } : Jvm.MethodName) prog_32_method_2_code (1 : Nat) (Option.some Jvm.ClassFile.FieldType.int)).before a0 Z = true := hw _ (List.mem_of_getElem? (i := 4) rfl)
theorem d1_0 : decode prog_32_method_2_code 0 = .ok (.iconst 4, 1) := by decide +kernel
theorem d1_1 : decode prog_32_method_2_code 1 = .ok (.aload_n 0, 1) := by decide +kernel
theorem d1_2 : decode prog_32_method_2_code 2 = .ok (.ifnonnull 7, 3) := by decide +kernel
theorem d1_5 : decode prog_32_method_2_code 5 = .ok (.iconst 0, 1) := by decide +kernel
theorem d1_6 : decode prog_32_method_2_code 6 = .ok (.goto 5, 3) := by decide +kernel
theorem d1_11 : decode prog_32_method_2_code 11 = .ok (.iadd, 1) := by decide +kernel
theorem d1_12 : decode prog_32_method_2_code 12 = .ok (.ireturn, 1) := by decide +kernel
theorem pn_1 : plainFor (⟨"com/example/outlet_to_office/outlettooffice/storage/JournalFields", "size", "([B)I"⟩ : MethodName) = true := plainFor_of_name (by first | (simp [plainName, overriddenIn]; done) | decide +kernel)
set_option maxHeartbeats 4000000 in
theorem c_null (l : Launch) (Z : State) (a0 : Array Value) (hw : OW Z a0) (n0 : Nat)  (h0 : Heap) (Z0 : n0 ≤ h0.size) :
    OCon l Z n0 (⟨"com/example/outlet_to_office/outlettooffice/storage/JournalFields", "size", "([B)I"⟩ : MethodName) prog_32_method_2_code 1 (some .int) ({ frames := 0, cells := 0, slots := 0, locals := 0 } : Room) #[.null] h0 (fun v h => v = some (.int (4 : Int32)) ∧ h = h0) := by
  refine OCon.of (Ls := #[.val .null]) pn_1 rfl rfl (fun m => by first | (simp [entryFrame, mkF, argsToLocals, Value.category]; done) | rfl) ?_
  intro p e s m below meth c T0 X0 K e0
  have N0 := Fr.nil n0
  refine o_iconst X0 K (4 : Int32) d1_0 1 rfl rfl ?_
  refine o_aloadN X0 K d1_1 2 rfl rfl rfl ?_
  refine o_ifnonnull_f X0 K d1_2 5 rfl ?_
  refine o_iconst X0 K (0 : Int32) d1_5 6 rfl rfl ?_
  refine o_goto X0 K d1_6 11 (by decide) (by decide) ?_
  refine o_iadd X0 K d1_11 12 rfl ?_
  refine o_ireturn X0 K d1_12 (by decide) (by decide) N0 ?_
  exact ⟨rfl, e0⟩
theorem d1_9 : decode prog_32_method_2_code 9 = .ok (.aload_n 0, 1) := by decide +kernel
theorem d1_10 : decode prog_32_method_2_code 10 = .ok (.arraylength, 1) := by decide +kernel
set_option maxHeartbeats 4000000 in
theorem c_arr (l : Launch) (Z : State) (a0 : Array Value) (hw : OW Z a0) (n0 : Nat) (a : Addr) (n : Nat) (f : Nat → Value) (z : Int32) (hz : z.toInt = n) (h0 : Heap) (Z0 : n0 ≤ h0.size) (A : OAr Z h0 a .byte n f) :
    OCon l Z n0 (⟨"com/example/outlet_to_office/outlettooffice/storage/JournalFields", "size", "([B)I"⟩ : MethodName) prog_32_method_2_code 1 (some .int) ({ frames := 0, cells := 0, slots := 0, locals := 0 } : Room) #[(.ref a)] h0 (fun v h => v = some (.int ((4 : Int32) + z)) ∧ h = h0) := by
  refine OCon.of (Ls := #[.val (.ref a)]) pn_1 rfl rfl (fun m => by first | (simp [entryFrame, mkF, argsToLocals, Value.category]; done) | rfl) ?_
  intro p e s m below meth c T0 X0 K e0
  have N0 := Fr.nil n0
  refine o_iconst X0 K (4 : Int32) d1_0 1 rfl rfl ?_
  refine o_aloadN X0 K d1_1 2 rfl rfl rfl ?_
  refine o_ifnonnull_t X0 K d1_2 9 (by decide) (by decide) ?_
  refine o_aloadN X0 K d1_9 10 rfl rfl rfl ?_
  refine o_arraylength X0 K d1_10 11 rfl e0 A (v := z) (hz) ?_
  refine o_iadd X0 K d1_11 12 rfl ?_
  refine o_ireturn X0 K d1_12 (by decide) (by decide) N0 ?_
  exact ⟨rfl, e0⟩
theorem pd___B_I : parseMethodDescriptor "([B)I" = some ⟨[(.array .byte)], some .int⟩ := by decide +kernel
theorem pn_0 : plainFor x = true := plainFor_of_name (by first | (simp [plainName, overriddenIn, x]; done) | decide +kernel)
set_option maxHeartbeats 4000000 in
theorem rm0 (l : Launch) (Z : State) (a0 : Array Value) (hw : OW Z a0) (n0 : Nat) (p0 p1 p2 : Int32) (h0 : Heap) (Z0 : n0 ≤ h0.size) :
    OCon l Z n0 x code maxLocals ret room_1 #[(.int p0), (.int p1), (.int p2)] h0 (fun v _ => v = some (.int 1)) := by
  refine OCon.of (Ls := #[.val (.int p0), .val (.int p1), .val (.int p2), .unset, .unset, .unset, .unset]) pn_0 rfl rfl (fun m => by first | (simp [entryFrame, mkF, argsToLocals, Value.category, maxLocals]; done) | rfl) ?_
  intro p e s m below meth c T0 X0 K e0
  have N0 := Fr.nil n0
  refine o_iloadN X0 K at_0 1 rfl rfl ?_
  refine o_sipush X0 K (1023 : Int32) at_1 4 rfl rfl ?_
  refine o_iand X0 K at_4 5 rfl ?_
  obtain ⟨k, h_k⟩ : ∃ z : Int32, z = (p0 &&& (1023 : Int32)) := ⟨_, rfl⟩
  refine o_istoreN X0 K at_5 6 rfl #[.val (.int p0), .val (.int p1), .val (.int p2), .val (.int k), .unset, .unset, .unset] h_k.symm rfl ?_
  have hk : 0 ≤ k.toInt ∧ k.toInt ≤ 1023 := by rw [h_k]; exact c_and _ _ (by decide)
  refine o_iloadN X0 K at_6 7 rfl rfl ?_
  refine o_newarray X0 K (n := k.toInt.toNat) at_7 9 rfl (w_0 hw) e0 (by omega) 1023 (by omega) (by decide) (by decide) (by decide) rfl ?_
  intro T1 h1 b g1 X1 e1 E1 A1
  dsimp only [newarray.typeOf, defaultValue] at A1
  have Z1 : n0 ≤ h1.size := Nat.le_trans Z0 E1.1
  have g_b : n0 ≤ b := by rw [g1]; exact Z0
  refine o_astore X1 K at_9 11 rfl #[.val (.int p0), .val (.int p1), .val (.int p2), .val (.int k), .val (.ref b), .unset, .unset] rfl rfl ?_
  refine o_iloadN X1 K at_11 12 rfl rfl ?_
  refine o_if_le X1 K at_12 29 (by decide) (by decide) 15 rfl (fun hc12 => ?_) (fun hc12 => ?_)
  · refine o_aconst_null X1 K at_29 30 rfl ?_
    refine o_invokestatic X1 K at_30 33 rfl (w_1 hw) (w_2 hw) (w_3 hw) (w_4 hw) (by decide) [.null] [] rfl  (c_null l Z a0 hw n0 h1 Z1) e1 rfl (lenOf pd___B_I rfl) (by decide) 0 (by decide) (by decide) (by decide) (by decide) N0 ?_
    rintro _ T2 h2 locs2 X2 q2 ⟨rfl, r2⟩ N2
    have e2 := q2.trans r2
    show OGo p e below s n0 _ _ _ (T2.setTop (mkF m 33 #[.val (.int p0), .val (.int p1), .val (.int p2), .val (.int k), .val (.ref b), .unset, .unset] [(.int (4 : Int32))]))
    refine o_iconst X2 K (4 : Int32) at_33 34 rfl rfl ?_
    refine o_icmp_ne_f X2 K at_34 37 rfl (rfl) ?_
    refine o_iconst X2 K (1 : Int32) at_37 38 rfl rfl ?_
    refine o_goto X2 K at_38 42 (by decide) (by decide) ?_
    refine o_istore X2 K at_42 44 rfl #[.val (.int p0), .val (.int p1), .val (.int p2), .val (.int k), .val (.ref b), .val (.int (1 : Int32)), .unset] rfl rfl ?_
    refine o_aload X2 K at_44 46 rfl rfl rfl ?_
    refine o_invokestatic X2 K at_46 49 rfl (w_1 hw) (w_2 hw) (w_3 hw) (w_4 hw) (by decide) [(.ref b)] [] rfl  (c_arr l Z a0 hw n0 b k.toInt.toNat _ k (by omega) h1 Z1 A1) e2 rfl (lenOf pd___B_I rfl) (by decide) 0 (by decide) (by decide) (by decide) (by decide) N2 ?_
    rintro _ T3 h3 locs3 X3 q3 ⟨rfl, r3⟩ N3
    have e3 := q3.trans r3
    show OGo p e below s n0 _ _ _ (T3.setTop (mkF m 49 #[.val (.int p0), .val (.int p1), .val (.int p2), .val (.int k), .val (.ref b), .val (.int (1 : Int32)), .unset] [(.int ((4 : Int32) + k))]))
    refine o_iloadN X3 K at_49 50 rfl rfl ?_
    refine o_iconst X3 K (4 : Int32) at_50 51 rfl rfl ?_
    refine o_iadd X3 K at_51 52 rfl ?_
    refine o_icmp_ne_f X3 K at_52 55 rfl (Int32.add_comm _ _) ?_
    refine o_iconst X3 K (1 : Int32) at_55 56 rfl rfl ?_
    refine o_goto X3 K at_56 60 (by decide) (by decide) ?_
    refine o_istore X3 K at_60 62 rfl #[.val (.int p0), .val (.int p1), .val (.int p2), .val (.int k), .val (.ref b), .val (.int (1 : Int32)), .val (.int (1 : Int32))] rfl rfl ?_
    refine o_iload X3 K at_62 64 rfl rfl ?_
    refine o_if_eq_f X3 K at_64 67 rfl (by decide) ?_
    refine o_iload X3 K at_67 69 rfl rfl ?_
    refine o_if_eq_f X3 K at_69 72 rfl (by decide) ?_
    refine o_iconst X3 K (1 : Int32) at_72 73 rfl rfl ?_
    refine o_goto X3 K at_73 77 (by decide) (by decide) ?_
    refine o_ireturnN X3 K (by decide) at_77 (by decide) (by decide) N3 ?_
    exact rfl
  · refine o_aload X1 K at_15 17 rfl rfl rfl ?_
    refine o_iconst X1 K (0 : Int32) at_17 18 rfl rfl ?_
    refine o_iloadN X1 K at_18 19 rfl rfl ?_
    refine o_i2b X1 K at_19 20 rfl ?_
    refine o_bastore X1 K (i := 0) (x' := (p1.toInt8.toInt32)) at_20 21 rfl e1 A1 (by decide) (by omega) (o_nb p1) N0 g_b ?_
    intro T4 h4 locs4 X4 e4 W4 A4 N4
    have Z4 : n0 ≤ h4.size := by rw [Wr.size W4]; exact Z1
    refine o_aload X4 K at_21 23 rfl rfl rfl ?_
    refine o_iloadN X4 K at_23 24 rfl rfl ?_
    refine o_iconst X4 K (1 : Int32) at_24 25 rfl rfl ?_
    refine o_isub X4 K at_25 26 rfl ?_
    refine o_iloadN X4 K at_26 27 rfl rfl ?_
    refine o_i2b X4 K at_27 28 rfl ?_
    refine o_bastore X4 K (i := (k.toInt.toNat - 1)) (x' := (p2.toInt8.toInt32)) at_28 29 rfl e4 A4 (by have q1 := c_isub k 1; have q2 := rng32 (k - 1); have q3 : (1 : Int32).toInt = 1 := rfl; omega) (by omega) (o_nb p2) N4 g_b ?_
    intro T5 h5 locs5 X5 e5 W5 A5 N5
    have Z5 : n0 ≤ h5.size := by rw [Wr.size W5]; exact Z4
    refine o_aconst_null X5 K at_29 30 rfl ?_
    refine o_invokestatic X5 K at_30 33 rfl (w_1 hw) (w_2 hw) (w_3 hw) (w_4 hw) (by decide) [.null] [] rfl  (c_null l Z a0 hw n0 h5 Z5) e5 rfl (lenOf pd___B_I rfl) (by decide) 0 (by decide) (by decide) (by decide) (by decide) N5 ?_
    rintro _ T6 h6 locs6 X6 q6 ⟨rfl, r6⟩ N6
    have e6 := q6.trans r6
    show OGo p e below s n0 _ _ _ (T6.setTop (mkF m 33 #[.val (.int p0), .val (.int p1), .val (.int p2), .val (.int k), .val (.ref b), .unset, .unset] [(.int (4 : Int32))]))
    refine o_iconst X6 K (4 : Int32) at_33 34 rfl rfl ?_
    refine o_icmp_ne_f X6 K at_34 37 rfl (rfl) ?_
    refine o_iconst X6 K (1 : Int32) at_37 38 rfl rfl ?_
    refine o_goto X6 K at_38 42 (by decide) (by decide) ?_
    refine o_istore X6 K at_42 44 rfl #[.val (.int p0), .val (.int p1), .val (.int p2), .val (.int k), .val (.ref b), .val (.int (1 : Int32)), .unset] rfl rfl ?_
    refine o_aload X6 K at_44 46 rfl rfl rfl ?_
    refine o_invokestatic X6 K at_46 49 rfl (w_1 hw) (w_2 hw) (w_3 hw) (w_4 hw) (by decide) [(.ref b)] [] rfl  (c_arr l Z a0 hw n0 b k.toInt.toNat _ k (by omega) h5 Z5 A5) e6 rfl (lenOf pd___B_I rfl) (by decide) 0 (by decide) (by decide) (by decide) (by decide) N6 ?_
    rintro _ T7 h7 locs7 X7 q7 ⟨rfl, r7⟩ N7
    have e7 := q7.trans r7
    show OGo p e below s n0 _ _ _ (T7.setTop (mkF m 49 #[.val (.int p0), .val (.int p1), .val (.int p2), .val (.int k), .val (.ref b), .val (.int (1 : Int32)), .unset] [(.int ((4 : Int32) + k))]))
    refine o_iloadN X7 K at_49 50 rfl rfl ?_
    refine o_iconst X7 K (4 : Int32) at_50 51 rfl rfl ?_
    refine o_iadd X7 K at_51 52 rfl ?_
    refine o_icmp_ne_f X7 K at_52 55 rfl (Int32.add_comm _ _) ?_
    refine o_iconst X7 K (1 : Int32) at_55 56 rfl rfl ?_
    refine o_goto X7 K at_56 60 (by decide) (by decide) ?_
    refine o_istore X7 K at_60 62 rfl #[.val (.int p0), .val (.int p1), .val (.int p2), .val (.int k), .val (.ref b), .val (.int (1 : Int32)), .val (.int (1 : Int32))] rfl rfl ?_
    refine o_iload X7 K at_62 64 rfl rfl ?_
    refine o_if_eq_f X7 K at_64 67 rfl (by decide) ?_
    refine o_iload X7 K at_67 69 rfl rfl ?_
    refine o_if_eq_f X7 K at_69 72 rfl (by decide) ?_
    refine o_iconst X7 K (1 : Int32) at_72 73 rfl rfl ?_
    refine o_goto X7 K at_73 77 (by decide) (by decide) ?_
    refine o_ireturnN X7 K (by decide) at_77 (by decide) (by decide) N7 ?_
    exact rfl
set_option maxHeartbeats 4000000 in
theorem comes_1 {Post : Tables → Env → Array Value → State → Outcome → State → Prop} (hpost : ∀ tb e args s v u, (limb_1_1.after args s (.returned v) u = true ∧ limb_1_2.after args s (.returned v) u = true ∧ True) → FrameEnd s (.returned v) u (Jvm.fieldLocs frame_1_writes args s ++ Jvm.arrayLocs frame_1_arrays args s ++ Jvm.staticLocs frame_1_statics s) 16 2112 → Post tb e args s (.returned v) u) :
    ArmFor flags0 classFile x code maxLocals ret World_1 tables_1 room_1 Calls_1 rest_1 Pre_1 Post := by
  intro l hfl _ _ p e ha hc hk s m args below hf hA hF happ hP
  obtain ⟨hcalls, hrest, hpre⟩ := hP
  obtain ⟨-, -, -, hnamed, -, -, -, hat⟩ := (Spec.applies_iff hf).mp happ
  obtain ⟨hg, hn⟩ := and_e (Cond.before_iff.mp (show (Jvm.Cond.and given_1 narrow_1).before args s = true from hpre))
  obtain ⟨g1, g2⟩ := and_e hg
  obtain ⟨g3, g4⟩ := and_e g2
  obtain ⟨g5, g6⟩ := and_e g4
  obtain ⟨w0, w1, w2, rfl⟩ : ∃ w0 w1 w2 : Value, args = #[w0, w1, w2] := by
    have hs : args.size = 3 := by simpa [Cond.value, given_1] using g1
    obtain ⟨L⟩ := args
    match L, hs with
    | [w0, w1, w2], _ => exact ⟨w0, w1, w2, rfl⟩
  have hw := fun d (hd : d ∈ tables_1) => atoms_spec (ws := Jvm.Cond.code x code maxLocals ret :: tables_1) hat d (List.mem_cons_of_mem _ hd)
  have hfit : Fit s := fun {y c} hc i hi => by
    obtain ⟨ha, rfl⟩ := Array.getElem?_eq_some_iff.mp hc
    have q := List.all_eq_true.mp ((Array.all_eq_true_iff_forall_mem.mp hF) _ (Array.getElem_mem ha)) i (List.mem_range.mpr hi)
    simpa [Array.getElem?_eq_getElem hi] using q
  obtain ⟨i0, ei0⟩ := is_v g3
  obtain rfl : w0 = (.int i0) := Option.some.inj ei0
  obtain ⟨i1, ei1⟩ := is_v g5
  obtain rfl : w1 = (.int i1) := Option.some.inj ei1
  obtain ⟨i2, ei2⟩ := is_v g6
  obtain rfl : w2 = (.int i2) := Option.some.inj ei2
  obtain ⟨n, o, h1, h2, h3, _, L, rfl, ⟨rfl, N⟩, hq⟩ := rm0 l s _ hw s.heap.size i0 i1 i2 s.heap (Nat.le_refl _)  tables_1 p e ha hc hk s m _ below hf ((Spec.applies_iff_loose hf).mp happ).1 ⟨rfl, State.Warmed39.refl s, rfl⟩ trivial
  refine ⟨n, _, h1, h2, h3, hpost _ _ _ _ _ _ ⟨Cond.after_iff.mpr rfl, Cond.after_iff.mpr (eq_i res_at (Term.int_eval (1)) rfl), trivial⟩ ⟨hq.1, hq.2.1, (hq.2.2.sift fun y hy => Or.inr (N y hy)).mono (by decide) (by decide)⟩⟩
theorem main_1_1 : Claimed_1_1 := comes_1 fun _ _ _ _ _ _ h hF => ⟨h.1, hF⟩
theorem main_1_2 : Claimed_1_2 := comes_1 fun _ _ _ _ _ _ h hF => ⟨h.2.1, hF⟩
end Jvm.Pilot.@@N@@
namespace Jvm.Pilot.@@N@@
open Jvm Jvm.ClassFile Sem Op Lib Jvm.Free Jvm.Stand Jvm.Pilot.@@N@@.Jvm.D
/-! MADE BY PROGRAM (witnessworld.py) out of the Statement's table words and the real class files: 9 classes; the members and pool entries that the words name. The judged class is class 1, her method 1. -/
namespace start1
open Jvm.ClassFile
def u (s : String) : CpInfo := .utf8 (stringToUtf16 s)
/-- a pool by its gaps: so many unusable entries, then the entry; so many at the end -/
def gap : Nat → List CpInfo → List CpInfo
  | 0, r => r
  | n + 1, r => .unusable :: gap n r
def poolList (es : List (Nat × CpInfo)) (last : Nat) : List CpInfo := es.foldr (fun e r => gap e.1 (e.2 :: r)) (gap last [])
def pool (es : List (Nat × CpInfo)) (last : Nat) : Array CpInfo := ⟨poolList es last⟩
def fileOf (pool : Array CpInfo) (this : Nat) (attrs : Array Attribute := #[]) (ms : Array MethodInfo := #[]) (fl : Nat := 33) (sup : Nat := 0) (ifs : Array Nat := #[]) (fds : Array FieldInfo := #[]) : ClassFile where
  minorVersion := 0
  majorVersion := 65
  constantPool := pool
  accessFlags := fl
  thisClass := this
  superClass := sup
  interfaces := ifs
  fields := fds
  methods := ms
  attributes := attrs
def plain (name : String) (sup : Option ClassId) : Class where
  name := name
  kind := .ordinary
  loader := none
  accessFlags := 33
  super := sup
  interfaces := #[]
  cf := none
  fields := #[]
  methods := #[]
  instanceTypes := #[]
  staticTypes := #[]
  resolved := #[]
  callSites := []
  init := .initialized
  statics := none
  mirror := none

def pool0 : Array CpInfo := pool [(5, u "<init>"), (0, u "()V"), (1, .class_ 10), (1, u "java/lang/Object")] 113

def k0m0 : Method := { name := "<init>", desc := "()V", sig := { parameters := [], returnType := none }, accessFlags := 1, code := none }
/-- java/lang/Object -/
def k0 : Class := { plain "java/lang/Object" none with
  accessFlags := 33
  interfaces := #[]
  cf := some (fileOf pool0 8 #[] #[{ accessFlags := 1, nameIndex := 5, descriptorIndex := 6, attributes := #[] }] 33 0 #[] #[])
  fields := #[]
  methods := #[k0m0]
  instanceTypes := #[]
  staticTypes := #[]
  resolved := Array.replicate 124 none
  statics := none }

def pool1 : Array CpInfo := pool [(2, .class_ 4), (1, u "java/lang/Object"), (0, u "<init>"), (0, u "()V"), (0, .methodref 8 9), (0, .class_ 10), (0, .nameAndType 11 12), (0, u "com/example/outlet_to_office/outlettooffice/storage/JournalFields"), (0, u "size"), (0, u "([B)I"), (0, .class_ 14), (0, u "com/example/outlet_to_office/outlettooffice/storage/JournalFieldsSizePinLaw"), (2, u "law"), (0, u "(III)Z")] 5

def k1m0 : Method := { name := "<init>", desc := "()V", sig := { parameters := [], returnType := none }, accessFlags := 2, code := none }
def k1c1 : Code := { maxStack := 3, maxLocals := 7, code := code, exceptionTable := #[], attributes := #[] }
def k1m1 : Method := { name := "law", desc := "(III)Z", sig := { parameters := [.int, .int, .int], returnType := some .boolean }, accessFlags := 9, code := some k1c1 }
/-- com/example/outlet_to_office/outlettooffice/storage/JournalFieldsSizePinLaw -/
def k1 : Class := { plain "com/example/outlet_to_office/outlettooffice/storage/JournalFieldsSizePinLaw" (some 0) with
  accessFlags := 49
  interfaces := #[]
  cf := some (fileOf pool1 13 #[] #[{ accessFlags := 2, nameIndex := 5, descriptorIndex := 6, attributes := #[] }, { accessFlags := 9, nameIndex := 17, descriptorIndex := 18, attributes := #[] }] 49 2 #[] #[])
  fields := #[]
  methods := #[k1m0, k1m1]
  instanceTypes := #[]
  staticTypes := #[]
  resolved := Array.replicate 24 none
  statics := none }

def pool2 : Array CpInfo := pool [(2, .class_ 4), (1, u "java/lang/Object"), (0, u "<init>"), (0, u "()V"), (2, .class_ 10), (0, u "com/example/outlet_to_office/outlettooffice/storage/JournalFields"), (36, u "NONE"), (0, u "I"), (4, u "size"), (0, u "([B)I")] 10

def k2m0 : Method := { name := "<init>", desc := "()V", sig := { parameters := [], returnType := none }, accessFlags := 2, code := none }
def k2c1 : Code := { maxStack := 2, maxLocals := 1, code := prog_32_method_2_code, exceptionTable := #[], attributes := #[] }
def k2m1 : Method := { name := "size", desc := "([B)I", sig := { parameters := [(.array .byte)], returnType := some .int }, accessFlags := 9, code := some k2c1 }
/-- com/example/outlet_to_office/outlettooffice/storage/JournalFields -/
def k2 : Class := { plain "com/example/outlet_to_office/outlettooffice/storage/JournalFields" (some 0) with
  accessFlags := 49
  interfaces := #[]
  cf := some (fileOf pool2 9 #[] #[{ accessFlags := 2, nameIndex := 5, descriptorIndex := 6, attributes := #[] }, { accessFlags := 9, nameIndex := 53, descriptorIndex := 54, attributes := #[] }] 49 2 #[] #[{ accessFlags := 26, nameIndex := 47, descriptorIndex := 48, attributes := #[] }])
  fields := #[{ name := "NONE", type := .int, accessFlags := 26, slot := 0, constantValue := 0 }]
  methods := #[k2m0, k2m1]
  instanceTypes := #[]
  staticTypes := #[.int]
  resolved := Array.replicate 65 none
  statics := none }

def pool3 : Array CpInfo := pool [(1, u "java/lang/Cloneable"), (0, .class_ 1), (0, u "java/lang/Object"), (0, .class_ 3)] 3

/-- java/lang/Cloneable -/
def k3 : Class := { plain "java/lang/Cloneable" (some 0) with
  accessFlags := 1537
  interfaces := #[]
  cf := some (fileOf pool3 2 #[] #[] 1537 4 #[] #[])
  fields := #[]
  methods := #[]
  instanceTypes := #[]
  staticTypes := #[]
  resolved := Array.replicate 8 none
  statics := none }

def pool4 : Array CpInfo := pool [(1, u "java/io/Serializable"), (0, .class_ 1), (0, u "java/lang/Object"), (0, .class_ 3)] 3

/-- java/io/Serializable -/
def k4 : Class := { plain "java/io/Serializable" (some 0) with
  accessFlags := 1537
  interfaces := #[]
  cf := some (fileOf pool4 2 #[] #[] 1537 4 #[] #[])
  fields := #[]
  methods := #[]
  instanceTypes := #[]
  staticTypes := #[]
  resolved := Array.replicate 8 none
  statics := none }

/-- the primitive byte -/
def k5 : Class := { plain "byte" none with kind := .primitive 'B', accessFlags := 0x411 }
/-- [B -/
def k6 : Class := { plain "[B" (some 0) with kind := .array 5 .byte, interfaces := #[3, 4], accessFlags := 1041 }

/-- the primitive int -/
def k7 : Class := { plain "int" none with kind := .primitive 'I', accessFlags := 0x411 }
/-- [I -/
def k8 : Class := { plain "[I" (some 0) with kind := .array 7 .int, interfaces := #[3, 4], accessFlags := 1041 }

def heap : Heap := #[]
def classes : Array Class := #[k0, k1, k2, k3, k4, k5, k6, k7, k8]
def interned : List (Array UInt16 × Addr) := []
def slotsUsed : Nat := 0
def theMethod : MethodId := ⟨1, 1⟩
def args0 : Array Value := #[.int 5, .int 3, .int 4]
def aboutOver (below : List Frame) : State where
  vm := { classes := classes, interned := interned.toArray }
  heap := heap
  slotsUsed := slotsUsed
  threads := #[{ frames := .invoking theMethod args0 :: below }]
def below0 : List Frame := [.native { method := ⟨0, 0⟩, args := #[] }]
def about1 : State := aboutOver below0
def p0 : Program := .bare "" "" ""
def e0 : Env := launch0.env 0 0 0
theorem w_frames : about1.frames = Frame.invoking theMethod args0 :: below0 := rfl
set_option maxRecDepth 65536 in
theorem w_args : argsFit about1.vm theMethod args0 = true := by decide +kernel
set_option maxRecDepth 65536 in
theorem w_heap : heapFits about1 = true := by decide +kernel
set_option maxRecDepth 65536 in
theorem w_runnable : about1.curStatus? = some .runnable := by decide +kernel
set_option maxRecDepth 65536 in
theorem w_alone : about1.alone = true := by decide +kernel
set_option maxRecDepth 65536 in
theorem w_named : about1.methodNamed? x = some theMethod := by decide +kernel
set_option maxRecDepth 65536 in
theorem w_hears : about1.hears theMethod below0 = true := by decide +kernel
set_option maxRecDepth 65536 in
theorem w_ripe : about1.ripe theMethod args0 below0 = true := by decide +kernel
theorem w_running : about1.status = .running := rfl
set_option maxRecDepth 65536 in
theorem w_room : about1.hasRoom e0.platform room_1 = true :=
  launch0.hasRoom_least _ room_1 (by decide +kernel) (by decide +kernel) (by decide +kernel) (by decide +kernel) (by decide +kernel) (by decide +kernel)
theorem allAtoms_all (ts : List Jvm.Cond) (a : Array Jvm.Value) (st : Jvm.State) : (allAtoms ts).before a st = ts.all (fun c => c.before a st) := by
  induction ts with
  | nil => rfl
  | cons c t ih =>
    show (Jvm.Cond.and c (allAtoms t)).before a st = _
    rw [Jvm.Cond.before_and, ih, List.all_cons]
def words1 : List Jvm.Cond := Jvm.Cond.code x code maxLocals ret :: tables_1
/-- a 'code' word, met by the world's own term for the bytes: nothing is compared byte by byte -/
theorem code_word {y : MethodName} {bytes : ByteArray} {mx : Nat} {rt : Option FieldType} {a : Array Value} {s : State} {m : MethodId} {meth : Method} {c : Code} (h1 : s.methodNamed? y = some m) (h2 : s.vm.method? m = some meth) (h3 : meth.code = some c) (h4 : c.code = bytes)
    (h5 : (c.maxLocals == mx && c.exceptionTable.isEmpty && decide (c.maxStack ≤ mostOperands) && decide (meth.sig.returnType = rt) && !meth.locks && decide (parseMethodDescriptor y.desc = some meth.sig)) = true) : (Jvm.Cond.code y bytes mx rt).before a s = true := by
  simp only [Bool.and_eq_true, beq_iff_eq, Bool.not_eq_true', decide_eq_true_eq] at h5
  obtain ⟨⟨⟨⟨⟨g1, g2⟩, g3⟩, g4⟩, g5⟩, g6⟩ := h5
  simp [Cond.before, Cond.holds, Cond.value, h1, h2, h3, h4, g1, g2, g3, g4, g5, g6]
def isCode : Jvm.Cond → Bool
  | .code _ _ _ _ => true
  | _ => false
theorem all_split {L : List Jvm.Cond} {P : Jvm.Cond → Bool} (h1 : L.all (fun c => isCode c || P c) = true) (h2 : ∀ c ∈ L.filter isCode, P c = true) : L.all P = true := by
  refine List.all_eq_true.mpr fun c hc => ?_
  have h := List.all_eq_true.mp h1 c hc
  rcases Bool.eq_false_or_eq_true (isCode c) with hi | hi
  · exact h2 c (List.mem_filter.mpr ⟨hc, hi⟩)
  · simpa [hi] using h
set_option maxRecDepth 65536 in
theorem w_c0 : (Jvm.Cond.code x code maxLocals ret).before args0 about1 = true := code_word (m := ⟨1, 1⟩) (meth := k1m1) (c := k1c1) (by decide +kernel) rfl rfl rfl (by decide +kernel)
set_option maxRecDepth 65536 in
theorem w_c1 : (Jvm.Cond.code ({ cls := "com/example/outlet_to_office/outlettooffice/storage/JournalFields", name := "size", desc := "([B)I" } : Jvm.MethodName) prog_32_method_2_code (1 : Nat) (Option.some Jvm.ClassFile.FieldType.int)).before args0 about1 = true := code_word (m := ⟨2, 1⟩) (meth := k2m1) (c := k2c1) (by decide +kernel) rfl rfl rfl (by decide +kernel)
def codes1 : List Jvm.Cond := [Jvm.Cond.code x code maxLocals ret, Jvm.Cond.code ({ cls := "com/example/outlet_to_office/outlettooffice/storage/JournalFields", name := "size", desc := "([B)I" } : Jvm.MethodName) prog_32_method_2_code (1 : Nat) (Option.some Jvm.ClassFile.FieldType.int)]
set_option maxRecDepth 65536 in
theorem codes_eq : words1.filter isCode = codes1 := rfl
theorem w_codes : ∀ c ∈ words1.filter isCode, c.before args0 about1 = true := by
  rw [codes_eq]
  intro c hc
  simp only [codes1, List.mem_cons, List.not_mem_nil, or_false] at hc
  rcases hc with rfl | rfl
  · exact w_c0
  · exact w_c1
set_option maxRecDepth 65536 in
theorem w_t1 : words1.all (fun c => isCode c || c.before args0 about1) = true := by decide +kernel
theorem w_tables : (allAtoms (Jvm.Cond.code x code maxLocals ret :: tables_1)).before args0 about1 = true := by
  rw [allAtoms_all]
  show words1.all (fun c => c.before args0 about1) = true
  refine all_split ?_ w_codes
  rw [w_t1]
set_option maxRecDepth 65536 in
theorem w_case : (Jvm.Cond.and given_1 narrow_1).before args0 about1 = true := by decide +kernel
theorem w_applies : (headSpec (Jvm.Cond.code x code maxLocals ret :: tables_1) room_1).applies x e0.platform about1 = true :=
  (Spec.applies_iff w_frames).mpr ⟨w_running, w_runnable, w_alone, w_named, w_hears, w_ripe, w_room, w_tables⟩
theorem atStart : AtStart classFile x code maxLocals ret World_1 tables_1 room_1 Calls_1 rest_1 Pre_1 launch0 p0 e0 about1 theMethod args0 below0 :=
  ⟨lists_1, trivial, launch0.admits_env _ _ _, launch0.least_env, fairChoices_fair.cas, fairChoices_fair.clock, w_frames, w_args, w_heap, w_applies, trivial, trivial, w_case⟩
end start1
theorem witness_1 : WitnessClaimed_1 := ⟨start1.p0, start1.e0, start1.about1, start1.theMethod, start1.args0, start1.below0, start1.atStart⟩
end Jvm.Pilot.@@N@@
